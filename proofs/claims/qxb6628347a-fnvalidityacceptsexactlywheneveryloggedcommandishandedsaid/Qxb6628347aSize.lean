/-
  sizeOK (6): a bool, the world as it was. The two byte bounds (5, 10): where they answer true the lengths are small.
-/
import Derived.Test.Qxb6628347aLeaf
namespace Go.Proofs.Qxb6628347a
open Go.RowKit Go.Lib

/-- The sum of the first k lengths. -/
def tot (L : Nat → Nat) : Nat → Nat
  | 0 => 0
  | k + 1 => tot L k + L k

/-- The call answers a bool; where it is true, p holds. -/
structure Only (e : Ending) (p : Prop) : Prop where
  ex : ∃ b : Bool, e = .returned (.bool b) ∧ (b = true → p)

set_option maxRecDepth 100000 in
set_option maxHeartbeats 400000 in
theorem sizeOK_any (B : Nat) (A : Option Addr) (n k : Nat) (S : Nat → ByteArray) (A2 : Option Addr) (m k2 : Nat) (a : Nat → Option Addr) (L C : Nat → Nat) (T : Nat → Nat → ByteArray) (w : World) (hS : Strs B w A n S) (hG : Grid B w A2 m a L C T) :
    Calls Try.prog 6 #[.slice A n k, .slice A2 m k2] w fun e w' => Only e True ∧ w' = w := by
  have hlen := hG.len
  have hsl := hS.len
  go_enter Try.func6, Try.ntmps6
  go_wp2
  go_loop [5, 6] (fun x q => ∃ (i : Nat) (z : Int), i ≤ n ∧ q = .int .i64 i ∧ x = .int .i64 z) (fun _ q => n - (intOf q).toNat)
  case atStart => exact ⟨0, 0, by omega, rfl, rfl⟩
  case round =>
    obtain ⟨i, z, hi, rfl, rfl⟩ := hrel
    by_cases hlt : i < n
    · obtain ⟨b, o, rfl, _, hc⟩ := hS.cells i hlt
      have hlt' : (i : Int) < (n : Int) := by omega
      go_wp2
      · go_ret
        exact ⟨⟨⟨_, rfl, fun _ => trivial⟩⟩, rfl⟩
      · go_ret
        exact ⟨⟨⟨_, rfl, fun _ => trivial⟩⟩, rfl⟩
      · go_round
        case rel => exact ⟨i + 1, _, by omega, by go_num, rfl⟩
        case measure => simp [intOf]; omega
    · go_wp2
      go_loop [5, 7] (fun x q => ∃ (i : Nat) (z : Int), i ≤ m ∧ q = .int .i64 i ∧ x = .int .i64 z) (fun _ q => m - (intOf q).toNat)
      case atStart => exact ⟨0, _, by omega, rfl, rfl⟩
      case round =>
        obtain ⟨i', z', hi', rfl, rfl⟩ := hrel
        by_cases hlt2 : i' < m
        · obtain ⟨b, o, rfl, _, hc⟩ := hG.outer i' hlt2
          have hlt' : (i' : Int) < (m : Int) := by omega
          have hI := hG.inner i' hlt2
          have hil := hI.len
          go_wp2
          · go_ret
            exact ⟨⟨⟨_, rfl, fun _ => trivial⟩⟩, rfl⟩
          · go_loop [5, 8] (fun x q => ∃ (j : Nat) (z : Int), j ≤ L i' ∧ q = .int .i64 j ∧ x = .int .i64 z) (fun _ q => L i' - (intOf q).toNat)
            case atStart => exact ⟨0, _, by omega, rfl, rfl⟩
            case round =>
              obtain ⟨j, z2, hj, rfl, rfl⟩ := hrel
              by_cases hjl : j < L i'
              · obtain ⟨b2, o2, ha, _, hc2⟩ := hI.cells j hjl
                rw [ha] at hc
                have hjl' : (j : Int) < (L i' : Int) := by omega
                clear ha
                go_wp2
                · go_ret
                  exact ⟨⟨⟨_, rfl, fun _ => trivial⟩⟩, rfl⟩
                · go_ret
                  exact ⟨⟨⟨_, rfl, fun _ => trivial⟩⟩, rfl⟩
                · go_round
                  case rel => exact ⟨j + 1, _, by omega, by go_num, rfl⟩
                  case measure => simp [intOf]; omega
              · go_wp2
                go_round
                case rel => exact ⟨i' + 1, _, by omega, by go_num, rfl⟩
                case measure => simp [intOf]; omega
        · go_wp2
          go_ret
          exact ⟨⟨⟨_, rfl, fun _ => trivial⟩⟩, rfl⟩

set_option maxRecDepth 100000 in
set_option maxHeartbeats 400000 in
theorem bytes5_any (B : Nat) (A : Option Addr) (n k : Nat) (S : Nat → ByteArray) (A2 : Option Addr) (m k2 : Nat) (a : Nat → Option Addr) (L C : Nat → Nat) (T : Nat → Nat → ByteArray) (p : Int) (w : World) (hS : Strs B w A n S) (hG : Grid B w A2 m a L C T) :
    Calls Try.prog 5 #[.slice A n k, .slice A2 m k2, .int .i64 p] w fun e w' => Only e (n + m + tot L m ≤ 1048576) ∧ w' = w := by
  have hlen := hG.len
  have hsl := hS.len
  go_enter Try.func5, Try.ntmps5
  go_wp2
  · go_ret
    exact ⟨⟨⟨false, rfl, fun h => by cases h⟩⟩, rfl⟩
  · go_loop [7, 8] (fun x q => ∃ (i : Nat) (z : Nat), i ≤ n ∧ q = .int .i64 i ∧ x = .int .i64 z ∧ n ≤ z ∧ z ≤ 1048576) (fun _ q => n - (intOf q).toNat)
    case atStart => exact ⟨0, n, by omega, rfl, rfl, by omega, by omega⟩
    case round =>
      obtain ⟨i, z, hi, rfl, rfl, hz1, hz2⟩ := hrel
      by_cases hlt : i < n
      · obtain ⟨b, o, rfl, _, hc⟩ := hS.cells i hlt
        have hlt' : (i : Int) < (n : Int) := by omega
        go_wp2
        · go_ret
          exact ⟨⟨⟨false, rfl, fun h => by cases h⟩⟩, rfl⟩
        · go_ret
          exact ⟨⟨⟨false, rfl, fun h => by cases h⟩⟩, rfl⟩
        · go_round
          case rel => exact ⟨i + 1, z + (S i).size, by omega, by go_num, by go_num, by omega, by omega⟩
          case measure => simp [intOf]; omega
      · go_wp2
        · go_ret
          exact ⟨⟨⟨false, rfl, fun h => by cases h⟩⟩, rfl⟩
        · go_ret
          exact ⟨⟨⟨false, rfl, fun h => by cases h⟩⟩, rfl⟩
        · go_loop [7, 9] (fun x q => ∃ (i : Nat) (z : Nat), i ≤ m ∧ q = .int .i64 i ∧ x = .int .i64 z ∧ n + m + tot L i ≤ z ∧ z ≤ 1048576) (fun _ q => m - (intOf q).toNat)
          case atStart => exact ⟨0, z + m, by omega, rfl, by go_num, by simp [tot]; omega, by omega⟩
          case round =>
            obtain ⟨i', z', hi', rfl, rfl, hz3, hz4⟩ := hrel
            by_cases hlt2 : i' < m
            · obtain ⟨b, o, rfl, _, hc⟩ := hG.outer i' hlt2
              have hlt' : (i' : Int) < (m : Int) := by omega
              have hI := hG.inner i' hlt2
              have hil := hI.len
              go_wp2
              · go_ret
                exact ⟨⟨⟨false, rfl, fun h => by cases h⟩⟩, rfl⟩
              · go_ret
                exact ⟨⟨⟨false, rfl, fun h => by cases h⟩⟩, rfl⟩
              · go_loop [7, 10] (fun x q => ∃ (j : Nat) (z : Nat), j ≤ L i' ∧ q = .int .i64 j ∧ x = .int .i64 z ∧ n + m + (tot L i' + L i') ≤ z ∧ z ≤ 1048576) (fun _ q => L i' - (intOf q).toNat)
                case atStart => exact ⟨0, z' + L i', by omega, rfl, by go_num, by omega, by omega⟩
                case round =>
                  obtain ⟨j, z2, hj, rfl, rfl, hz5, hz6⟩ := hrel
                  by_cases hjl : j < L i'
                  · obtain ⟨b2, o2, ha, _, hc2⟩ := hI.cells j hjl
                    rw [ha] at hc
                    have hjl' : (j : Int) < (L i' : Int) := by omega
                    clear ha
                    go_wp2
                    · go_ret
                      exact ⟨⟨⟨false, rfl, fun h => by cases h⟩⟩, rfl⟩
                    · go_ret
                      exact ⟨⟨⟨false, rfl, fun h => by cases h⟩⟩, rfl⟩
                    · go_round
                      case rel => exact ⟨j + 1, z2 + (T i' j).size, by omega, by go_num, by go_num, by omega, by omega⟩
                      case measure => simp [intOf]; omega
                  · go_wp2
                    go_round
                    case rel => exact ⟨i' + 1, z2, by omega, by go_num, rfl, by simp [tot]; omega, by omega⟩
                    case measure => simp [intOf]; omega
            · go_wp2
              go_ret
              have hmm : i' = m := by omega
              subst hmm
              exact ⟨⟨⟨true, rfl, fun _ => by omega⟩⟩, rfl⟩

set_option maxRecDepth 100000 in
set_option maxHeartbeats 400000 in
theorem bytes10_any (B : Nat) (A : Option Addr) (n k : Nat) (S : Nat → ByteArray) (A2 : Option Addr) (m k2 : Nat) (a : Nat → Option Addr) (L C : Nat → Nat) (T : Nat → Nat → ByteArray) (p : Int) (w : World) (hS : Strs B w A n S) (hG : Grid B w A2 m a L C T) :
    Calls Try.prog 10 #[.slice A n k, .slice A2 m k2, .int .i64 p] w fun e w' => Only e (n + m + tot L m ≤ 1048576) ∧ w' = w := by
  have hlen := hG.len
  have hsl := hS.len
  go_enter Try.func10, Try.ntmps10
  go_wp2
  · go_ret
    exact ⟨⟨⟨false, rfl, fun h => by cases h⟩⟩, rfl⟩
  · go_loop [7, 8] (fun x q => ∃ (i : Nat) (z : Nat), i ≤ n ∧ q = .int .i64 i ∧ x = .int .i64 z ∧ n ≤ z ∧ z ≤ 1048576) (fun _ q => n - (intOf q).toNat)
    case atStart => exact ⟨0, n, by omega, rfl, rfl, by omega, by omega⟩
    case round =>
      obtain ⟨i, z, hi, rfl, rfl, hz1, hz2⟩ := hrel
      by_cases hlt : i < n
      · obtain ⟨b, o, rfl, _, hc⟩ := hS.cells i hlt
        have hlt' : (i : Int) < (n : Int) := by omega
        go_wp2
        · go_ret
          exact ⟨⟨⟨false, rfl, fun h => by cases h⟩⟩, rfl⟩
        · go_ret
          exact ⟨⟨⟨false, rfl, fun h => by cases h⟩⟩, rfl⟩
        · go_round
          case rel => exact ⟨i + 1, z + (S i).size, by omega, by go_num, by go_num, by omega, by omega⟩
          case measure => simp [intOf]; omega
      · go_wp2
        · go_ret
          exact ⟨⟨⟨false, rfl, fun h => by cases h⟩⟩, rfl⟩
        · go_ret
          exact ⟨⟨⟨false, rfl, fun h => by cases h⟩⟩, rfl⟩
        · go_loop [7, 9] (fun x q => ∃ (i : Nat) (z : Nat), i ≤ m ∧ q = .int .i64 i ∧ x = .int .i64 z ∧ n + m + tot L i ≤ z ∧ z ≤ 1048576) (fun _ q => m - (intOf q).toNat)
          case atStart => exact ⟨0, z + m, by omega, rfl, by go_num, by simp [tot]; omega, by omega⟩
          case round =>
            obtain ⟨i', z', hi', rfl, rfl, hz3, hz4⟩ := hrel
            by_cases hlt2 : i' < m
            · obtain ⟨b, o, rfl, _, hc⟩ := hG.outer i' hlt2
              have hlt' : (i' : Int) < (m : Int) := by omega
              have hI := hG.inner i' hlt2
              have hil := hI.len
              go_wp2
              · go_ret
                exact ⟨⟨⟨false, rfl, fun h => by cases h⟩⟩, rfl⟩
              · go_ret
                exact ⟨⟨⟨false, rfl, fun h => by cases h⟩⟩, rfl⟩
              · go_loop [7, 10] (fun x q => ∃ (j : Nat) (z : Nat), j ≤ L i' ∧ q = .int .i64 j ∧ x = .int .i64 z ∧ n + m + (tot L i' + L i') ≤ z ∧ z ≤ 1048576) (fun _ q => L i' - (intOf q).toNat)
                case atStart => exact ⟨0, z' + L i', by omega, rfl, by go_num, by omega, by omega⟩
                case round =>
                  obtain ⟨j, z2, hj, rfl, rfl, hz5, hz6⟩ := hrel
                  by_cases hjl : j < L i'
                  · obtain ⟨b2, o2, ha, _, hc2⟩ := hI.cells j hjl
                    rw [ha] at hc
                    have hjl' : (j : Int) < (L i' : Int) := by omega
                    clear ha
                    go_wp2
                    · go_ret
                      exact ⟨⟨⟨false, rfl, fun h => by cases h⟩⟩, rfl⟩
                    · go_ret
                      exact ⟨⟨⟨false, rfl, fun h => by cases h⟩⟩, rfl⟩
                    · go_round
                      case rel => exact ⟨j + 1, z2 + (T i' j).size, by omega, by go_num, by go_num, by omega, by omega⟩
                      case measure => simp [intOf]; omega
                  · go_wp2
                    go_round
                    case rel => exact ⟨i' + 1, z2, by omega, by go_num, rfl, by simp [tot]; omega, by omega⟩
                    case measure => simp [intOf]; omega
            · go_wp2
              go_ret
              have hmm : i' = m := by omega
              subst hmm
              exact ⟨⟨⟨true, rfl, fun _ => by omega⟩⟩, rfl⟩
end Go.Proofs.Qxb6628347a
