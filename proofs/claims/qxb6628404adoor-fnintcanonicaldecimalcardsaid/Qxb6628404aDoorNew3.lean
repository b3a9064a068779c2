/-
  ZZnewValue3 (15).
-/
import Derived.Test.Qxb6628404aDoorVal
namespace Go.Proofs.Qxb6628404aDoor
open Go.RowKit Go.Lib

set_option maxRecDepth 100000 in
set_option maxHeartbeats 400000 in
theorem new3_any (T : Value) (hT : ∃ a n c, T = .slice a n c) (k0 k1 k2 : UInt8) (s0 e0 x0 s1 e1 x1 s2 e2 x2 i : Int) (w : World) :
    Calls Tryd.prog 15 #[T, .int .u8 (k0.toNat : Int), .int .i32 s0, .int .i32 e0, .int .i32 x0, .int .u8 (k1.toNat : Int), .int .i32 s1, .int .i32 e1, .int .i32 x1, .int .u8 (k2.toNat : Int), .int .i32 s2, .int .i32 e2, .int .i32 x2, .int .i32 i] w fun r w' => Below w.heap.size w w' ∧ ∃ d, r = .returned (.agg #[.pointer (some ⟨d, 0, none⟩), .int .i32 i]) ∧ Doc w'.heap.size w' d T 3 (fun j => if j = 0 then k0 else if j = 1 then k1 else k2) (fun j => if j = 0 then s0 else if j = 1 then s1 else s2) (fun j => if j = 0 then e0 else if j = 1 then e1 else e2) (fun j => if j = 0 then x0 else if j = 1 then x1 else x2) := by
  obtain ⟨a, n, c, rfl⟩ := hT
  go_enter Tryd.func15, Tryd.ntmps15
  go_wp2
  refine bodyPost_ret (v := .agg #[.pointer (some ⟨w.heap.size + 1 + 1, 0, none⟩), .int .i32 i]) (by simp [results, Tryd.results15, go_sem]) rfl ⟨?_, _, rfl, w.heap.size + 1, ?_, ?_, ?_, ?_, fun j hj => ?_⟩
  · exact (((Below.refl _ w).alloc (Nat.le_refl _) _).alloc (by simp) _).alloc (by simp; omega) _
  · rw [cell_at _ _ _ _ _ (by simp)]
    rfl
  · rw [cell_at _ _ _ _ _ (by simp)]
    rfl
  · simp
  · simp
  · refine World.rangeAt_alloc ?_ _
    intro t v hv
    rw [cell_at _ _ _ _ _ (by simp)]
    have h3 : j = 0 ∨ j = 1 ∨ j = 2 := by omega
    have h5 : t < 5 := (List.getElem?_eq_some_iff.1 hv).1
    have h6 : t = 0 ∨ t = 1 ∨ t = 2 ∨ t = 3 ∨ t = 4 := by omega
    rcases h3 with rfl | rfl | rfl <;> rcases h6 with rfl | rfl | rfl | rfl | rfl <;> exact hv
end Go.Proofs.Qxb6628404aDoor
