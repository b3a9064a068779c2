/-
  THE DATA; member (11), allLogged (9), sizeOK (6), the two byte bounds (5, 10).
-/
import Derived.Test.Qxb6628347aRows
import Derived.WalkKit
import Derived.Below
import Derived.Lib.SlicesS
namespace Go.Proofs.Qxb6628347a
open Go.RowKit Go.Lib

theorem cells9 : Try.prog.cellsOf 9 = 1 := by kernel_rfl
theorem cells22 : Try.prog.cellsOf 22 = 1 := by kernel_rfl

/-- A slice of n strings lies at A, below block B: string j is S j. -/
structure Strs (B : Nat) (w : World) (A : Option Addr) (n : Nat) (S : Nat → ByteArray) : Prop where
  cells : ∀ j, j < n → ∃ b o, A = some ⟨b, o, none⟩ ∧ b < B ∧ w.cell? ⟨b, o + j, none⟩ = some (.string (S j))
  small : ∀ j, j < n → (S j).size ≤ maxLen
  len : n ≤ 9223372036854775807
/-- A slice of m slices of strings. -/
structure Grid (B : Nat) (w : World) (A : Option Addr) (m : Nat) (a : Nat → Option Addr) (L C : Nat → Nat) (T : Nat → Nat → ByteArray) : Prop where
  outer : ∀ i, i < m → ∃ b o, A = some ⟨b, o, none⟩ ∧ b < B ∧ w.cell? ⟨b, o + i, none⟩ = some (.slice (a i) (L i) (C i))
  inner : ∀ i, i < m → Strs B w (a i) (L i) (T i)
  len : m ≤ 9223372036854775807

theorem Strs.below {B B' : Nat} {w w' : World} {A : Option Addr} {n : Nat} {S : Nat → ByteArray} (h : Strs B w A n S) (hb : Below B' w w') (hB : B ≤ B') : Strs B w' A n S :=
  ⟨fun j hj => by
    obtain ⟨b, o, h1, h2, h3⟩ := h.cells j hj
    exact ⟨b, o, h1, h2, by rw [hb.cell (show b < B' by omega)]; exact h3⟩, h.small, h.len⟩
theorem Strs.mono {B B' : Nat} {w : World} {A : Option Addr} {n : Nat} {S : Nat → ByteArray} (h : Strs B w A n S) (hB : B ≤ B') : Strs B' w A n S :=
  ⟨fun j hj => by
    obtain ⟨b, o, h1, h2, h3⟩ := h.cells j hj
    exact ⟨b, o, h1, by omega, h3⟩, h.small, h.len⟩
theorem Grid.below {B B' : Nat} {w w' : World} {A : Option Addr} {m : Nat} {a : Nat → Option Addr} {L C : Nat → Nat} {T : Nat → Nat → ByteArray} (h : Grid B w A m a L C T) (hb : Below B' w w') (hB : B ≤ B') : Grid B w' A m a L C T :=
  ⟨fun j hj => by
    obtain ⟨b, o, h1, h2, h3⟩ := h.outer j hj
    exact ⟨b, o, h1, h2, by rw [hb.cell (show b < B' by omega)]; exact h3⟩, fun i hi => (h.inner i hi).below hb hB, h.len⟩
theorem Grid.mono {B B' : Nat} {w : World} {A : Option Addr} {m : Nat} {a : Nat → Option Addr} {L C : Nat → Nat} {T : Nat → Nat → ByteArray} (h : Grid B w A m a L C T) (hB : B ≤ B') : Grid B' w A m a L C T :=
  ⟨fun j hj => by
    obtain ⟨b, o, h1, h2, h3⟩ := h.outer j hj
    exact ⟨b, o, h1, by omega, h3⟩, fun i hi => (h.inner i hi).mono hB, h.len⟩

/-- The call answers a bool, true exactly where p holds. -/
structure Says (e : Ending) (p : Prop) : Prop where
  ex : ∃ b : Bool, e = .returned (.bool b) ∧ (b = true ↔ p)
theorem Says.yes {p : Prop} (h : p) : Says (.returned (.bool true)) p := ⟨true, rfl, by simp [h]⟩
theorem Says.no {p : Prop} (h : ¬ p) : Says (.returned (.bool false)) p := ⟨false, rfl, by simp [h]⟩

def IsIn (n : Nat) (S : Nat → ByteArray) (c : ByteArray) : Prop := ∃ q, q < n ∧ S q = c
def AllIn (n : Nat) (S : Nat → ByteArray) (m : Nat) (L : Nat → Nat) (T : Nat → Nat → ByteArray) : Prop := ∀ i, i < m → ∀ j, j < L i → IsIn n S (T i j)

set_option maxRecDepth 100000 in
set_option maxHeartbeats 400000 in
theorem member_any (c : ByteArray) (B : Nat) (A : Option Addr) (n k : Nat) (S : Nat → ByteArray) (w : World) (hS : Strs B w A n S) :
    Calls Try.prog 11 #[.string c, .slice A n k] w fun e w' => Says e (IsIn n S c) ∧ w' = w := by
  have hlen := hS.len
  go_enter Try.func11, Try.ntmps11
  go_wp2
  go_loop [5] (fun q => ∃ i : Nat, i ≤ n ∧ q = .int .i64 i ∧ Hid (∀ q, q < i → S q ≠ c)) (fun q => n - (intOf q).toNat)
  case atStart => exact ⟨0, by omega, rfl, fun q hq => by omega⟩
  case round =>
    obtain ⟨i, hi, rfl, hno⟩ := hrel
    by_cases hlt : i < n
    · obtain ⟨b, o, rfl, _, hc⟩ := hS.cells i hlt
      have hlt' : (i : Int) < (n : Int) := by omega
      by_cases he : S i = c
      · have hbe : ((S i).toList == c.toList) = true := (bytes_beq_iff _ _).2 he
        have HE : Hid (S i = c) := he
        clear he
        go_wp2
        go_ret
        exact ⟨Says.yes ⟨i, hlt, HE.out⟩, rfl⟩
      · have hbe : ((S i).toList == c.toList) = false := (bytes_beq_false_iff _ _).2 he
        have HE : Hid (S i ≠ c) := he
        clear he
        go_wp2
        go_round
        case rel => exact ⟨i + 1, by omega, by go_num, fun q hq => by
          rcases Nat.lt_succ_iff_lt_or_eq.1 hq with h | h
          · exact hno.out q h
          · subst h; exact HE.out⟩
        case measure => simp [intOf]; omega
    · go_wp2
      go_ret
      exact ⟨Says.no (fun ⟨q, hq, e⟩ => hno.out q (by omega) e), rfl⟩

set_option maxRecDepth 100000 in
set_option maxHeartbeats 400000 in
theorem allLogged_any (B : Nat) (A : Option Addr) (n k : Nat) (S : Nat → ByteArray) (A2 : Option Addr) (m k2 : Nat) (a : Nat → Option Addr) (L C : Nat → Nat) (T : Nat → Nat → ByteArray) (w : World) (hS : Strs B w A n S) (hG : Grid B w A2 m a L C T) :
    Calls Try.prog 9 #[.slice A n k, .slice A2 m k2] w fun e w' => Says e (AllIn n S m L T) ∧ w' = w := by
  have hlen := hG.len
  go_enter Try.func9, Try.ntmps9
  go_wp2
  go_loop [5] (fun q => ∃ i : Nat, i ≤ m ∧ q = .int .i64 i ∧ Hid (AllIn n S i L T)) (fun q => m - (intOf q).toNat)
  case atStart => exact ⟨0, by omega, rfl, fun q hq => by omega⟩
  case round =>
    obtain ⟨i, hi, rfl, hno⟩ := hrel
    by_cases hlt : i < m
    · obtain ⟨b, o, rfl, _, hc⟩ := hG.outer i hlt
      have hlt' : (i : Int) < (m : Int) := by omega
      have hI := hG.inner i hlt
      have hil := hI.len
      go_wp2
      go_loop [6] (fun q => ∃ j : Nat, j ≤ L i ∧ q = .int .i64 j ∧ Hid (∀ t, t < j → IsIn n S (T i t))) (fun q => L i - (intOf q).toNat)
      case atStart => exact ⟨0, by omega, rfl, fun q hq => by omega⟩
      case round =>
        obtain ⟨j, hj, rfl, hjn⟩ := hrel
        by_cases hjl : j < L i
        · obtain ⟨b2, o2, ha, _, hc2⟩ := hI.cells j hjl
          rw [ha] at hc
          have hjl' : (j : Int) < (L i : Int) := by omega
          have HS : Hid (Strs B w A n S) := hS
          clear ha
          go_wp2_with (go_at_call 11; refine (member_any _ B _ _ _ S _ HS.out).mono ?_; rintro e w' ⟨⟨bb, rfl, hbb⟩, rfl⟩; have HB : Hid (bb = true ↔ IsIn n S (T i j)) := hbb; clear hbb; cases bb)
          · go_ret
            exact ⟨Says.no (fun h => by have := HB.out.2 (h i hlt j hjl); cases this), rfl⟩
          · go_round
            case rel => exact ⟨j + 1, by omega, by go_num, fun t ht => by
              rcases Nat.lt_succ_iff_lt_or_eq.1 ht with h | h
              · exact hjn.out t h
              · subst h; exact HB.out.1 trivial⟩
            case measure => simp [intOf]; omega
        · go_wp2
          go_round
          case rel => exact ⟨i + 1, by omega, by go_num, fun t ht => by
              rcases Nat.lt_succ_iff_lt_or_eq.1 ht with h | h
              · exact hno.out t h
              · subst h; exact fun j' hj' => hjn.out j' (by omega)⟩
          case measure => simp [intOf]; omega
    · go_wp2
      go_ret
      exact ⟨Says.yes (fun i' hi' => hno.out i' (by omega)), rfl⟩
end Go.Proofs.Qxb6628347a
