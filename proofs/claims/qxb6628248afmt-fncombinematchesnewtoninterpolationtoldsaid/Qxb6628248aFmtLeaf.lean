/-
  THE LEAVES: gfXtime, mul, inverse: each computes its plain function; the world is as it was.
-/
import Derived.Test.Qxb6628248aFmtRows
import Derived.Test.Qxb6628248aFmtNewton
import Derived.WalkKit
import Derived.WalkSpells
import Derived.WalkLawsBesides
namespace Go.Proofs.Qxb6628248aFmt
open Go.RowKit
open Gf

/-! ### Bytes as the walk spells them -/
theorem u8x (a b : UInt8) : bits .xor .u8 (a.toNat : Int) (b.toNat : Int) = ((a ^^^ b).toNat : Int) := by
  rw [u8_xor_nat _ _ a.toNat_lt b.toNat_lt, UInt8.toNat_xor]
theorem u8_128 (a : UInt8) : (bits .and .u8 (a.toNat : Int) 128 != 0) = !decide (a < 128) := by
  have h : allB (fun a => (bits .and .u8 (a.toNat : Int) 128 != 0) == !decide (a < 128)) = true := by decide +kernel
  simpa using allB_spec h a
theorem xt_hi (a : UInt8) (h : ¬ a < 128) : bits .xor .u8 ((a.toNat : Int) * 2 % 256) 27 = ((xt a).toNat : Int) := by
  have hh : allB (fun a => decide (a < 128) || decide (bits .xor .u8 ((a.toNat : Int) * 2 % 256) 27 = ((xt a).toNat : Int))) = true := by decide +kernel
  have := allB_spec hh a
  simpa [h] using this
theorem xt_lo (a : UInt8) (h : a < 128) : (a.toNat : Int) * 2 % 256 = ((xt a).toNat : Int) := by
  have hh : allB (fun a => !decide (a < 128) || decide ((a.toNat : Int) * 2 % 256 = ((xt a).toNat : Int))) = true := by decide +kernel
  have := allB_spec hh a
  simpa [h] using this
theorem xt_round (x : UInt8) : bits .xor .u8 ((x.toNat : Int) * 2 % 256) (bits .and .u8 (-((x.toNat : Int) / 128) % 256) 27) = ((xt x).toNat : Int) := by
  have hh : allB (fun x => decide (bits .xor .u8 ((x.toNat : Int) * 2 % 256) (bits .and .u8 (-((x.toNat : Int) / 128) % 256) 27) = ((xt x).toNat : Int))) = true := by decide +kernel
  simpa using allB_spec hh x
theorem and_255 (x : UInt8) : bits .and .u8 255 (x.toNat : Int) = (x.toNat : Int) := by
  have hh : allB (fun x => decide (bits .and .u8 255 (x.toNat : Int) = (x.toNat : Int))) = true := by decide +kernel
  simpa using allB_spec hh x
theorem and_0 (x : UInt8) : bits .and .u8 0 (x.toNat : Int) = 0 := by
  have hh : allB (fun x => decide (bits .and .u8 0 (x.toNat : Int) = 0)) = true := by decide +kernel
  simpa using allB_spec hh x
theorem neg_1 (y : UInt8) : -bits .and .u8 (y.toNat : Int) 1 % 256 = if y % 2 = 1 then 255 else 0 := by
  have hh : allB (fun y => decide (-bits .and .u8 (y.toNat : Int) 1 % 256 = if y % 2 = 1 then 255 else 0)) = true := by decide +kernel
  simpa using allB_spec hh y
theorem p_round (z x y : UInt8) : bits .xor .u8 (z.toNat : Int) (bits .and .u8 (-bits .and .u8 (y.toNat : Int) 1 % 256) (x.toNat : Int)) = ((if y % 2 = 1 then z ^^^ x else z : UInt8).toNat : Int) := by
  rw [neg_1]
  split
  · rw [and_255, u8x]
  · rw [and_0]
    have := u8x z 0
    simpa using this
theorem half (y : UInt8) : (y.toNat : Int) / 2 = ((y / 2).toNat : Int) := by
  rw [UInt8.toNat_div]; rfl
theorem ret_u8 {a b : Int} (h : a = b) : Ending.returned (.int .u8 a) = .returned (.int .u8 b) := by rw [h]
theorem val_u8 {a b : Int} (h : a = b) : Value.int .u8 a = .int .u8 b := by rw [h]

set_option maxRecDepth 100000 in
set_option maxHeartbeats 400000 in
theorem xtime_any (a : UInt8) (w : World) :
    Calls Tryf.prog 9 #[.int .u8 (a.toNat : Int)] w fun e w' => e = .returned (.int .u8 ((xt a).toNat : Int)) ∧ w' = w := by
  by_cases h : a < 128
  · have h1 := u8_128 a
    have h2 := xt_lo a h
    have H2 : Hid ((a.toNat : Int) * 2 % 256 = ((xt a).toNat : Int)) := h2; clear h2
    simp only [h, decide_true, Bool.not_true] at h1
    go_enter Tryf.func9, Tryf.ntmps9
    go_wp2
    go_ret
    exact ⟨ret_u8 H2.out, rfl⟩
  · have h1 := u8_128 a
    have h2 := xt_hi a h
    have H2 : Hid (bits .xor .u8 ((a.toNat : Int) * 2 % 256) 27 = ((xt a).toNat : Int)) := h2; clear h2
    simp only [h, decide_false, Bool.not_false] at h1
    go_enter Tryf.func9, Tryf.ntmps9
    go_wp2
    go_ret
    exact ⟨ret_u8 H2.out, rfl⟩

set_option maxRecDepth 100000 in
set_option maxHeartbeats 400000 in
theorem mul_any (A B : UInt8) (w : World) :
    Calls Tryf.prog 11 #[.int .u8 (A.toNat : Int), .int .u8 (B.toNat : Int)] w fun e w' => e = .returned (.int .u8 ((gm A B).toNat : Int)) ∧ w' = w := by
  go_enter Tryf.func11, Tryf.ntmps11
  go_wp2
  go_loop [0, 1, 5, 6] (fun a b p i => ∃ (k : Nat) (x y z : UInt8), k ≤ 8 ∧ i = .int .i64 k ∧ a = .int .u8 (x.toNat : Int) ∧ b = .int .u8 (y.toNat : Int) ∧ p = .int .u8 (z.toNat : Int) ∧ gmAux (8 - k) z x y = gm A B) (fun _ _ _ i => 8 - (intOf i).toNat)
  case atStart => exact ⟨0, A, B, 0, by omega, rfl, rfl, rfl, rfl, rfl⟩
  case round =>
    obtain ⟨k, x, y, z, hk, rfl, rfl, rfl, rfl, hg⟩ := hrel
    have HG : Hid (gmAux (8 - k) z x y = gm A B) := hg
    clear hg
    by_cases hlt : k < 8
    · go_wp2
      go_round
      case rel =>
        refine ⟨k + 1, xt x, y / 2, if y % 2 = 1 then z ^^^ x else z, by omega, by go_num, val_u8 (xt_round x), val_u8 (half y), val_u8 (p_round z x y), ?_⟩
        have := HG.out
        rw [show 8 - k = 8 - (k + 1) + 1 from by omega] at this
        exact this
      case measure => simp [intOf]; omega
    · go_wp2
      go_ret
      refine ⟨ret_u8 ?_, rfl⟩
      have := HG.out
      rw [show 8 - k = 0 from by omega] at this
      rw [← this]; rfl

set_option maxRecDepth 100000 in
set_option maxHeartbeats 400000 in
theorem inverse_any (A : UInt8) (w : World) :
    Calls Tryf.prog 12 #[.int .u8 (A.toNat : Int)] w fun e w' => e = .returned (.int .u8 ((gi A).toNat : Int)) ∧ w' = w := by
  go_enter Tryf.func12, Tryf.ntmps12
  go_wp2
  go_loop [3, 4, 6] (fun r p i => ∃ (k : Nat) (x y : UInt8), k ≤ 7 ∧ i = .int .i64 k ∧ r = .int .u8 (x.toNat : Int) ∧ p = .int .u8 (y.toNat : Int) ∧ giAux (7 - k) x y = gi A) (fun _ _ i => 7 - (intOf i).toNat)
  case atStart => exact ⟨0, 1, A, by omega, rfl, rfl, rfl, rfl⟩
  case round =>
    obtain ⟨k, x, y, hk, rfl, rfl, rfl, hg⟩ := hrel
    have HG : Hid (giAux (7 - k) x y = gi A) := hg
    clear hg
    by_cases hlt : k < 7
    · go_wp2_with (go_at_call 11; refine (mul_any _ _ _).mono ?_; rintro e w' ⟨rfl, rfl⟩)
      go_round
      case rel =>
        refine ⟨k + 1, gm x (gm y y), gm y y, by omega, by go_num, rfl, rfl, ?_⟩
        have := HG.out
        rw [show 7 - k = 7 - (k + 1) + 1 from by omega] at this
        exact this
      case measure => simp [intOf]; omega
    · go_wp2
      go_ret
      refine ⟨ret_u8 ?_, rfl⟩
      have := HG.out
      rw [show 7 - k = 0 from by omega] at this
      rw [← this]; rfl
end Go.Proofs.Qxb6628248aFmt
