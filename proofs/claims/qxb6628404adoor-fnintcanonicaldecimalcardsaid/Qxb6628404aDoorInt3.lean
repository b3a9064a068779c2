/-
  integer (19) and Int (9) at a value that is no number.
-/
import Derived.Test.Qxb6628404aDoorInt2
namespace Go.Proofs.Qxb6628404aDoor
open Go.RowKit Go.Lib

set_option maxRecDepth 100000 in
set_option maxHeartbeats 400000 in
theorem integer_other (B d : Nat) (T : Value) (N : Nat) (K : Nat → UInt8) (S E X : Nat → Int) (i : Nat) (hi : i < N) (hK : K i ≠ 4) (w : World) (hB : B ≤ w.heap.size) (hD : Doc B w d T N K S E X) :
    Calls Tryd.prog 19 #[.agg #[.pointer (some ⟨d, 0, none⟩), .int .i32 (i : Int)]] w fun r w' => r = .returned (.tuple #[.string ⟨#[]⟩, .bool false]) ∧ Below w.heap.size w w' := by
  have hb1 : Below w.heap.size w (w.alloc (.cells #[.pointer (some ⟨d, 0, none⟩), .int .i32 (i : Int)] 28)) := (Below.refl _ w).alloc (Nat.le_refl _) _
  have k24 := kind_any B d _ N K S E X i hi _ (Nat.le_trans hB hb1.size) (hD.below hb1 hB)
  have hk : (((K i).toNat : Int) != 4) = true := by rw [bne_iff_ne]; exact fun h => hK (UInt8.toNat.inj (by rw [show ((4 : UInt8).toNat) = 4 from rfl]; omega))
  have hl := u8lt (K i)
  clear hD hK
  generalize K i = z at *
  go_enter Tryd.func19, Tryd.ntmps19
  go_wp2_with (first
    | (go_at_call 24; refine k24.mono ?_; rintro r w2 ⟨rfl, hb2⟩; clear k24; have hb02 := hb1.trans (hb2.mono hb1.size))
    | fail)
  go_ret2
  exact ⟨rfl, hb02⟩

set_option maxRecDepth 100000 in
set_option maxHeartbeats 400000 in
theorem int_other (B d : Nat) (T : Value) (N : Nat) (K : Nat → UInt8) (S E X : Nat → Int) (i : Nat) (hi : i < N) (hK : K i ≠ 4) (w : World) (hB : B ≤ w.heap.size) (h2 : 2 ≤ w.heap.size) (hE : Errs w) (hD : Doc B w d T N K S E X) :
    Calls Tryd.prog 9 #[.agg #[.pointer (some ⟨d, 0, none⟩), .int .i32 (i : Int)]] w fun r w' => (∃ t p, r = .returned (.tuple #[.int .i64 0, .iface t (.pointer (some p))])) ∧ Below w.heap.size w w' := by
  have hb1 : Below w.heap.size w (w.alloc (.cells #[.pointer (some ⟨d, 0, none⟩), .int .i32 (i : Int)] 28)) := (Below.refl _ w).alloc (Nat.le_refl _) _
  have k19 := integer_other B d T N K S E X i hi hK _ (Nat.le_trans hB hb1.size) (hD.below hb1 hB)
  have HP : Hid (∀ W, Below w.heap.size w W → Calls Tryd.prog 20 #[.string ⟨#[]⟩, .int .i64 10, .int .i64 64] W fun e w' => Below W.heap.size W w' ∧ ∃ z ev, e = .returned (.tuple #[.int .i64 z, ev])) := fun W hb =>
    (parse_any [] (by simp) W (hE.below hb h2)).mono (by
      rintro e w' ⟨h1, ⟨v, _, rfl⟩ | ⟨_, z, p, rfl⟩⟩
      · exact ⟨h1, _, _, rfl⟩
      · exact ⟨h1, _, _, rfl⟩)
  clear hD hE hK
  go_enter Tryd.func9, Tryd.ntmps9
  go_wp2_with (first
    | (go_at_call 19; refine k19.mono ?_; rintro r w2 ⟨rfl, hb2⟩; clear k19; have hb02 := hb1.trans (hb2.mono hb1.size))
    | (go_at_call 20; refine (HP.out _ hb02).mono ?_)
    | fail)
  rintro r w3 ⟨hb3, z, ev, rfl⟩
  have hb03 := hb02.trans (hb3.mono hb02.size)
  clear hb3 hb2 HP
  go_wp2
  go_ret2
  exact ⟨⟨_, _, rfl⟩, hb03.alloc hb03.size _⟩
end Go.Proofs.Qxb6628404aDoor
