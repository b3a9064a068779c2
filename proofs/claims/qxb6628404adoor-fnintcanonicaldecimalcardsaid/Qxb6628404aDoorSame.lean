/-
  zzSame (17), zzIsPlainString (18).
-/
import Derived.Test.Qxb6628404aDoorCanon
namespace Go.Proofs.Qxb6628404aDoor
open Go.RowKit Go.Lib

set_option maxRecDepth 100000 in
set_option maxHeartbeats 400000 in
theorem same_any (B : Nat) (A : Option Addr) (n c : Nat) (f : Nat → UInt8) (L : ByteArray) (hL : L.size ≤ 1000) (w : World) (hS : Byt B w A n f) :
    Calls Tryd.prog 17 #[.slice A n c, .string L] w fun e w' => Only e (n = L.size ∧ ∀ t, t < n → f t = L.data.getD t 0) ∧ ∃ q, w' = w.drewN q := by
  have hlen := hS.len
  by_cases hnl : n = L.size
  · have hls : ((n : Int) != (L.size : Int)) = false := by rw [hnl]; simp
    have HN : Hid (n = L.size) := hnl
    have hn1 : n ≤ 1000 := by omega
    have HS : Hid (Byt B w A n f) := hS
    clear hS hnl
    go_enter Tryd.func17, Tryd.ntmps17
    go_wp2
    go_loopw [5] (fun q wr => ∃ j m : Nat, j ≤ n ∧ q = .int .i64 j ∧ Hid (wr = w.drewN m ∧ ∀ t, t < j → f t = L.data.getD t 0)) (fun q _ => n - (intOf q).toNat)
    case atStart => exact ⟨0, 0, by omega, rfl, rfl, fun t ht => by omega⟩
    case round =>
      obtain ⟨j, m, hj, rfl, HW⟩ := hrel
      by_cases hlt : j < n
      · obtain ⟨b, o, rfl, _, hc⟩ := HS.out.cells j hlt
        have hcj : wr.cell? ⟨b, o + j, none⟩ = some (.int .u8 ((f j).toNat : Int)) := by rw [HW.out.1]; exact hc
        have hix : ∀ W, (Instr.index 9 (.string L) (.int .i64 (j : Int))).run Tryd.prog W = .ok (.int .u8 ((L.data.getD j 0).toNat : Int)) W := fun W => by
          have hjL : j < L.size := by have := HN.out; omega
          rw [run_index_string W 9 _ .i64 _ Tryd.underlying9, dif_pos ⟨by omega, by omega⟩]
          simp only [Int.toNat_natCast]
          have : L[j]'hjL = L.data.getD j 0 := by
            rw [Array.getD, dif_pos (show j < L.data.size from hjL)]
            rfl
          rw [this]
        have hlt' : (j : Int) < (n : Int) := by omega
        have hb0 : (0 : Int) ≤ (j : Int) := by omega
        have hwp : IntKind.i64.wrap ((j : Int)) = (j : Int) := wrap_small (by omega) (by omega)
        have htn : ((j : Int)).toNat = j := by omega
        have hlf := u8lt (f j)
        have hlg := u8lt (L.data.getD j 0)
        clear hc
        by_cases heq : f j = L.data.getD j 0
        · have hbe : (((f j).toNat : Int) != ((L.data.getD j 0).toNat : Int)) = false := by rw [heq]; simp
          have HE : Hid (f j = L.data.getD j 0) := heq
          clear heq
          generalize htb : L.data.getD j 0 = tb at *
          have HTB : Hid (L.data.getD j 0 = tb) := htb
          clear htb
          go_wp2
          go_quiet (fail)
          go_wp2
          exact ⟨⟨j + 1, m + nq, by omega, by go_num, by rw [HW.out.1]; exact drew_two _ _ _, fun t ht => by
            rcases Nat.lt_succ_iff_lt_or_eq.1 ht with h | h
            · exact HW.out.2 t h
            · subst h; rw [HTB.out]; exact HE.out⟩, by simp [intOf]; omega⟩
        · have hbe : (((f j).toNat : Int) != ((L.data.getD j 0).toNat : Int)) = true := by rw [bne_iff_ne]; exact fun h => heq (UInt8.toNat.inj (by omega))
          clear heq
          generalize htb : L.data.getD j 0 = tb at *
          clear htb
          go_wp2
          go_quiet (fail)
          go_wp2
          go_ret
          exact ⟨⟨false, rfl, fun h => by cases h⟩, drew_ex HW.out.1 nq 0⟩
      · have hjn : n = j := by omega
        subst hjn
        go_wp2
        go_ret
        exact ⟨⟨true, rfl, fun _ => ⟨HN.out, HW.out.2⟩⟩, _, HW.out.1⟩
  · have hls : ((n : Int) != (L.size : Int)) = true := by rw [bne_iff_ne]; omega
    clear hS hnl
    go_enter Tryd.func17, Tryd.ntmps17
    go_wp2
    go_ret
    exact ⟨⟨false, rfl, fun h => by cases h⟩, 0, rfl⟩

set_option maxRecDepth 100000 in
set_option maxHeartbeats 400000 in
theorem plain_any (B : Nat) (A : Option Addr) (n c : Nat) (f : Nat → UInt8) (w : World) (hS : Byt B w A n f) :
    Calls Tryd.prog 18 #[.slice A n c] w fun e w' => Only e (2 ≤ n ∧ f 0 = 34) ∧ w' = w := by
  have hlen := hS.len
  by_cases h2 : 2 ≤ n
  · have HC : Hid (∀ j, j < n → ∃ b o, A = some ⟨b, o, none⟩ ∧ w.cell? ⟨b, o + j, none⟩ = some (.int .u8 ((f j).toNat : Int))) := fun j hj => by
      obtain ⟨b, o, h1, _, h3⟩ := hS.cells j hj
      exact ⟨b, o, h1, h3⟩
    obtain ⟨b, o, rfl, hc0⟩ := HC.out 0 (by omega)
    have HD : Hid (∀ j, j < n → w.cell? ⟨b, o + j, none⟩ = some (.int .u8 ((f j).toNat : Int))) := fun j hj => by
      obtain ⟨b', o', h1, h3⟩ := HC.out j hj
      cases h1
      exact h3
    have hcl := HD.out (n - 1) (by omega)
    rw [Nat.add_zero] at hc0
    have hlt2 : ¬ (n : Int) < 2 := by omega
    have hl0 := u8lt (f 0)
    have hll := u8lt (f (n - 1))
    have htn : ((n : Int) - 1).toNat = n - 1 := by omega
    have hq : (0 : Int) < (n : Int) := by omega
    have hq1 : (0 : Int) ≤ (n : Int) - 1 := by omega
    have hq2 : (n : Int) - 1 < (n : Int) := by omega
    clear hS HC
    by_cases e0 : f 0 = 34
    · have hb0 : (((f 0).toNat : Int) != 34) = false := by rw [e0]; rfl
      have HE : Hid (f 0 = 34) := e0
      clear e0
      by_cases e1 : f (n - 1) = 34
      · have hb1 : (((f (n - 1)).toNat : Int) != 34) = false := by rw [e1]; rfl
        clear e1
        generalize f (n - 1) = z at *
        go_enter Tryd.func18, Tryd.ntmps18
        go_wp2
        go_loopw [4, 5] (fun q _ wr => ∃ j : Nat, 1 ≤ j ∧ j ≤ n - 1 ∧ q = .int .i64 j ∧ wr = w) (fun q _ _ => n - (intOf q).toNat)
        case atStart => exact ⟨1, by omega, by omega, rfl, rfl⟩
        case round =>
          obtain ⟨j, hj1, hj, rfl, rfl⟩ := hrel
          by_cases hlt : j < n - 1
          · have hcj := HD.out j (by omega)
            have hlt' : (j : Int) < (n : Int) - 1 := by omega
            have hlf := u8lt (f j)
            generalize f j = y at *
            go_wp2
            all_goals first
              | (go_ret; exact ⟨⟨false, rfl, fun h => by cases h⟩, rfl⟩)
              | skip
            go_roundw
            case rel => exact ⟨j + 1, by omega, by omega, by go_num, trivial⟩
            case measure => simp [intOf]; omega
          · have hjn : n - 1 = j := by omega
            have hlt' : ¬ (j : Int) < (n : Int) - 1 := by omega
            go_wp2
            go_ret
            exact ⟨⟨true, rfl, fun _ => by first | exact ⟨h2, HE.out⟩ | exact HE.out⟩, rfl⟩
      · have hb1 : (((f (n - 1)).toNat : Int) != 34) = true := by rw [bne_iff_ne]; exact fun h => e1 (UInt8.toNat.inj (by rw [show ((34 : UInt8).toNat) = 34 from rfl]; omega))
        clear e1
        generalize f (n - 1) = z at *
        go_enter Tryd.func18, Tryd.ntmps18
        go_wp2
        go_ret
        exact ⟨⟨false, rfl, fun h => by cases h⟩, rfl⟩
    · have hb0 : (((f 0).toNat : Int) != 34) = true := by rw [bne_iff_ne]; exact fun h => e0 (UInt8.toNat.inj (by rw [show ((34 : UInt8).toNat) = 34 from rfl]; omega))
      clear e0
      go_enter Tryd.func18, Tryd.ntmps18
      go_wp2
      go_ret
      exact ⟨⟨false, rfl, fun h => by cases h⟩, rfl⟩
  · have hlt2 : (n : Int) < 2 := by omega
    clear hS
    go_enter Tryd.func18, Tryd.ntmps18
    go_wp2
    go_ret
    exact ⟨⟨false, rfl, fun h => by cases h⟩, rfl⟩
end Go.Proofs.Qxb6628404aDoor
