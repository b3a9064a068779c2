/-
  zzKindOf (6).
-/
import Derived.Test.Qxb6628404aDoorNum
import Derived.Test.Qxb6628404aDoorSame
namespace Go.Proofs.Qxb6628404aDoor
open Go.RowKit Go.Lib

/-- What zzKindOf tells of a text. -/
structure Kinded (f : Nat → UInt8) (n : Nat) (e : Ending) : Prop where
  ex : ∃ k : UInt8, e = .returned (.int .u8 (k.toNat : Int)) ∧ (k = 0 ∨ (k = 4 ∧ Num f n) ∨ (k ≠ 0 ∧ k ≠ 4 ∧ 0 < n ∧ ¬ Canon f n))
theorem not_canon {f : Nat → UInt8} {n : Nat} (h : ¬ Dig (f 0)) (h45 : f 0 ≠ 45) : ¬ Canon f n := by
  rintro (⟨_, h0⟩ | ⟨h1, _, h3, _⟩)
  · exact h (by rw [h0]; unfold Dig; decide)
  · have hs : sg f n = 0 := by unfold sg; rw [if_neg (fun h => h45 h.2)]
    rw [hs] at h1 h3
    exact h (h3 0 (Nat.le_refl _) h1)
theorem kinded_of {f : Nat → UInt8} {n : Nat} (k : UInt8) (c : UInt8) (hk : k ≠ 0) (hk4 : k ≠ 4) (hn : 0 < n) (h0 : f 0 = c) (hc : ¬ Dig c) (hc45 : c ≠ 45) : Kinded f n (.returned (.int .u8 (k.toNat : Int))) :=
  ⟨k, rfl, .inr (.inr ⟨hk, hk4, hn, not_canon (by rw [h0]; exact hc) (by rw [h0]; exact hc45)⟩)⟩

/-- w' is w after some draws. -/
structure Drew (w w' : World) : Prop where
  ex : ∃ q, w' = w.drewN q
theorem Drew.refl (w : World) : Drew w w := ⟨0, rfl⟩
theorem Drew.byt {B : Nat} {w w' : World} {A : Option Addr} {n : Nat} {f : Nat → UInt8} (h : Drew w w') (hS : Byt B w A n f) : Byt B w' A n f := by
  obtain ⟨q, rfl⟩ := h.ex
  exact ⟨fun j hj => by
    obtain ⟨b, o, h1, h2, h3⟩ := hS.cells j hj
    exact ⟨b, o, h1, h2, h3⟩, hS.len⟩
theorem Drew.trans {w w' w'' : World} (h : Drew w w') (h2 : ∃ q, w'' = w'.drewN q) : Drew w w'' := by
  obtain ⟨q, rfl⟩ := h.ex
  obtain ⟨q', rfl⟩ := h2
  exact ⟨q + q', drew_two _ _ _⟩

set_option maxRecDepth 100000 in
set_option maxHeartbeats 400000 in
theorem kindOf_any (B : Nat) (A : Option Addr) (n c : Nat) (f : Nat → UInt8) (w : World) (hS : Byt B w A n f) :
    Calls Tryd.prog 6 #[.slice A n c] w fun e w' => Kinded f n e ∧ Drew w w' := by
  have k14 : Calls Tryd.prog 14 #[.slice A n c] w fun e w' => Only e (Num f n) ∧ Drew w w' := (num_any B A n c f w hS).mono (by
    rintro e w' ⟨h1, rfl⟩
    exact ⟨h1, Drew.refl _⟩)
  have H17 : Hid (∀ W (L : ByteArray), Drew w W → L.size ≤ 1000 → Calls Tryd.prog 17 #[.slice A n c, .string L] W fun e w' => Only e (n = L.size ∧ ∀ t, t < n → f t = L.data.getD t 0) ∧ Drew w w') := fun W L hd hL =>
    (same_any B A n c f L hL W (hd.byt hS)).mono (by
      rintro e w' ⟨h1, h2⟩
      exact ⟨h1, hd.trans h2⟩)
  have H18 : Hid (∀ W, Drew w W → Calls Tryd.prog 18 #[.slice A n c] W fun e w' => Only e (2 ≤ n ∧ f 0 = 34) ∧ Drew w w') := fun W hd => (plain_any B A n c f W (hd.byt hS)).mono (by
    rintro e w' ⟨h1, rfl⟩
    exact ⟨h1, hd⟩)
  clear hS
  go_enter Tryd.func6, Tryd.ntmps6
  go_wp2_with (first
    | (go_at_call 14; refine k14.mono ?_; rintro e w1 ⟨⟨b1, rfl, hb⟩, hd1⟩; have HB1 : Hid (b1 = true → Num f n) := hb; clear hb k14)
    | fail)
  · go_ret
    exact ⟨⟨4, rfl, .inr (.inl ⟨rfl, HB1.out (by first | rfl | assumption)⟩)⟩, hd1⟩
  go_wp2_with (first
    | (go_at_call 17; refine (H17.out _ _ hd1 ?_).mono ?_; decide; rintro e w2 ⟨⟨b2, rfl, hb⟩, hd2⟩; have HB2 : Hid (b2 = true → n = 4 ∧ ∀ t, t < n → f t = (#[116, 114, 117, 101] : Array UInt8).getD t 0) := hb; clear hb hd1)
    | fail)
  · go_ret
    have HN := HB2.out (by first | rfl | assumption)
    exact ⟨kinded_of 5 116 (by decide) (by decide) (by have := HN.1; omega) (HN.2 0 (by have := HN.1; omega)) (by unfold Dig; decide) (by decide), hd2⟩
  go_wp2_with (first
    | (go_at_call 17; refine (H17.out _ _ hd2 ?_).mono ?_; decide; rintro e w3 ⟨⟨b3, rfl, hb⟩, hd3⟩; have HB3 : Hid (b3 = true → n = 5 ∧ ∀ t, t < n → f t = (#[102, 97, 108, 115, 101] : Array UInt8).getD t 0) := hb; clear hb hd2)
    | fail)
  · go_ret
    have HN := HB3.out (by first | rfl | assumption)
    exact ⟨kinded_of 6 102 (by decide) (by decide) (by have := HN.1; omega) (HN.2 0 (by have := HN.1; omega)) (by unfold Dig; decide) (by decide), hd3⟩
  go_wp2_with (first
    | (go_at_call 17; refine (H17.out _ _ hd3 ?_).mono ?_; decide; rintro e w4 ⟨⟨b4, rfl, hb⟩, hd4⟩; have HB4 : Hid (b4 = true → n = 4 ∧ ∀ t, t < n → f t = (#[110, 117, 108, 108] : Array UInt8).getD t 0) := hb; clear hb hd3)
    | fail)
  · go_ret
    have HN := HB4.out (by first | rfl | assumption)
    exact ⟨kinded_of 7 110 (by decide) (by decide) (by have := HN.1; omega) (HN.2 0 (by have := HN.1; omega)) (by unfold Dig; decide) (by decide), hd4⟩
  go_wp2_with (first
    | (go_at_call 18; refine (H18.out _ hd4).mono ?_; rintro e w5 ⟨⟨b5, rfl, hb⟩, hd5⟩; have HB5 : Hid (b5 = true → 2 ≤ n ∧ f 0 = 34) := hb; clear hb hd4)
    | fail)
  · go_ret
    have HN := HB5.out (by first | rfl | assumption)
    exact ⟨kinded_of 3 34 (by decide) (by decide) (by have := HN.1; omega) HN.2 (by unfold Dig; decide) (by decide), hd5⟩
  go_ret
  exact ⟨⟨0, rfl, .inl rfl⟩, hd5⟩
end Go.Proofs.Qxb6628404aDoor
