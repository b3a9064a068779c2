/-
  THE ARGUMENTS: from their reading to 'Strs' and 'Grid'.
-/
import Derived.Test.Qxb6628347aLeaf
import Derived.Deep.Slices
import Derived.Deep.Strs
import Derived.ProofKit
import Derived.Carry
namespace Go.Proofs.Qxb6628347a
open Go.RowKit Go.Lib Go.ChangeShapes Go.WideShapes Go.ChangeAt Go.Deep

section
variable {H : Type} {enc : TypeId × Value → H} {W : World}
theorem strs_of {fuel : Nat} {cs : List Value} {x : DataW H × List MemPlace} (h : DataW.trod enc Try.prog W 0 (fun _ => true) true fuel 22 cs = some x) :
    ∃ (A : Option Addr) (n c : Nat) (S : Nat → ByteArray), cs = [.slice A n c] ∧ n ≤ c ∧ Strs W.heap.size W A n S := by
  rcases open_strs Try.underlying22 Try.underlying9 cells9 h with ⟨hcs, _⟩ | ⟨a, len, cap, m, Sx, hcs, _, hl, hm, hmm, _, hcell⟩
  · exact ⟨none, 0, 0, fun _ => ⟨#[]⟩, hcs, Nat.le_refl _, ⟨fun j hj => by omega, fun j hj => by omega, by omega⟩⟩
  · simp only [if_true] at hmm
    subst hmm
    refine ⟨some a, len, m, Sx, hcs, hl, ⟨fun j hj => ?_, fun j hj => (hcell j (by omega)).2, by unfold maxLen at hm; omega⟩⟩
    obtain ⟨b, off, spot⟩ := a
    have hc := (hcell j (by omega)).1
    have hspot : spot = none := by simpa [Addr.add] using World.cell?_spot (hcell 0 (by omega)).1
    subst hspot
    rw [add_plain] at hc
    exact ⟨b, off, rfl, World.block_lt_of_cell? _ _ hc, hc⟩
theorem grid_of {fuel : Nat} {cs : List Value} {x : DataW H × List MemPlace} (h : DataW.trod enc Try.prog W 0 (fun _ => true) true fuel 23 cs = some x) :
    ∃ (A : Option Addr) (m c : Nat) (a : Nat → Option Addr) (L C : Nat → Nat) (T : Nat → Nat → ByteArray), cs = [.slice A m c] ∧ m ≤ c ∧ Grid W.heap.size W A m a L C T := by
  rcases open_slice1 Try.underlying23 cells22 h with ⟨hcs, _⟩ | ⟨a, len, cap, m, n, V, D, Pl, hcs, _, hl, hm, hmm, _, hcell⟩
  · exact ⟨none, 0, 0, fun _ => none, fun _ => 0, fun _ => 0, fun _ _ => ⟨#[]⟩, hcs, Nat.le_refl _, ⟨fun j hj => by omega, fun j hj => by omega, by omega⟩⟩
  · simp only [if_true] at hmm
    subst hmm
    obtain ⟨y, hy⟩ := choose_lt (α := Option Addr × Nat × Nat × (Nat → ByteArray)) (n := m) (p := fun i y => V i = .slice y.1 y.2.1 y.2.2.1 ∧ Strs W.heap.size W y.1 y.2.1 y.2.2.2) (fun i hi => by
      obtain ⟨A, n', c, S, h1, _, h2⟩ := strs_of (hcell i hi).2
      exact ⟨(A, n', c, S), by simpa using h1, h2⟩)
    refine ⟨some a, len, m, fun i => (y i).1, fun i => (y i).2.1, fun i => (y i).2.2.1, fun i => (y i).2.2.2, hcs, hl, ⟨fun j hj => ?_, fun j hj => (hy j (by omega)).2, by unfold maxLen at hm; omega⟩⟩
    obtain ⟨b, off, spot⟩ := a
    have hc := (hcell j (by omega)).1
    have hspot : spot = none := by simpa [Addr.add] using World.cell?_spot (hcell 0 (by omega)).1
    subst hspot
    rw [add_plain, (hy j (by omega)).1] at hc
    exact ⟨b, off, rfl, World.block_lt_of_cell? _ _ hc, hc⟩
end
end Go.Proofs.Qxb6628347a
