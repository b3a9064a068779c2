/-
  THE ARGUMENTS: from their reading to 'Byt'; THE LISTED VARIABLES: from 'laid' to 'Errs'.
-/
import Derived.Test.Qxb6628404aDoorInt2
import Derived.Deep.Slices
import Derived.ProofKit
import Derived.Carry
import Derived.LaidMore
import Derived.OpenShut
import Derived.Stop.LaidErr
import Derived.Stop.Joined
namespace Go.Proofs.Qxb6628404aDoor
open Go.RowKit Go.Lib Go.ChangeShapes Go.WideShapes Go.ChangeAt

theorem own : ownKnob Tryd.prog.godebug = none := by kernel_rfl
theorem laidOut : laidOutB Tryd.prog = true := by kernel_rfl
theorem cells5 : Tryd.prog.cellsOf 5 = 1 := by kernel_rfl
theorem cells9 : Tryd.prog.cellsOf 9 = 1 := by kernel_rfl
theorem cells58 : Tryd.prog.cellsOf 58 = 1 := by kernel_rfl
theorem tSyn : (Tryd.prog.globals[0]?).map (·.type) = some 31 := by kernel_rfl
theorem tRng : (Tryd.prog.globals[1]?).map (·.type) = some 31 := by kernel_rfl
theorem star : "*" ++ "errors.errorString" = "*errors.errorString" := by decide
theorem row56 (u : TypeId) (h : Tryd.prog.typeName? 3 u = some "*errors.errorString") : u = 56 :=
  typeName_ptr_named (nm := "errors.errorString") (by rw [star]; kernel_rfl) (by kernel_rfl) (by decide) u (by rw [star]; exact h)

/-- The list of the rows. -/
def laid5 : List (String × DataW Unit) := [("math/bits.deBruijn32tab", Rows.laid_math_bits_deBruijn32tab), ("math/bits.deBruijn64tab", Rows.laid_math_bits_deBruijn64tab), ("internal/strconv.uint64pow10", Rows.laid_internal_strconv_uint64pow10), ("strconv.ErrRange", Rows.laid_strconv_ErrRange), ("strconv.ErrSyntax", Rows.laid_strconv_ErrSyntax)]

theorem errs_of {W : World} (h : laidMetH Tryd.prog laid5 W) : Errs W ∧ 2 ≤ W.heap.size := by
  rw [MakeChecks.laidMetH_plain _ _ _ (by kernel_rfl)] at h
  have h3 : laidMet Tryd.prog [("strconv.ErrRange", Rows.laid_strconv_ErrRange), ("strconv.ErrSyntax", Rows.laid_strconv_ErrSyntax)] W := h.tail.tail.tail
  obtain ⟨a1, s1, hv1, _, _, _⟩ := laid_sentinel h3 gRng tRng Tryd.underlying31 row56 Tryd.underlying56 Tryd.underlying58 rfl rfl Tryd.underlying9 cells58 cells9
  obtain ⟨a0, s0, hv0, _, _, _⟩ := laid_sentinel h3.tail gSyn tSyn Tryd.underlying31 row56 Tryd.underlying56 Tryd.underlying58 rfl rfl Tryd.underlying9 cells58 cells9
  have c1 : W.cell? ⟨1, 0, none⟩ = some (.iface 56 (.pointer (some a1))) := by simpa using World.var?_cell gRng hv1 0
  exact ⟨⟨⟨_, _, hv0⟩, ⟨_, _, hv1⟩⟩, World.block_lt_of_cell? _ _ c1⟩

/-- The door's own heap meets the condition. -/
theorem door_met (os : Os) (args : Array Value) : laidMetH Tryd.prog laid5 ((World.doorLaid Tryd.prog 400 os).forCall (fun _ _ => 0) ⟨#[], args, []⟩).memory :=
  laidMetH_of_parts3 (fuel := 8) (laidMet_of_run' 8 (by kernel_rfl) (by kernel_rfl)) (by kernel_rfl) (by kernel_rfl)

section
variable {H : Type} {enc : TypeId × Value → H} {W : World}
theorem byt_of {fuel : Nat} {cs : List Value} {x : DataW H × List MemPlace} (h : DataW.trod enc Tryd.prog W 0 (fun _ => true) true fuel 22 cs = some x) :
    ∃ (A : Option Addr) (n c : Nat) (f : Nat → UInt8), cs = [.slice A n c] ∧ (A = none → n = 0) ∧ Byt W.heap.size W A n f := by
  rcases open_ints Tryd.underlying22 Tryd.underlying5 cells5 h with ⟨hcs, _⟩ | ⟨a, len, cap, zs, hcs, _, hl, hm, hzl, _, hcell, hwf⟩
  · exact ⟨none, 0, 0, fun _ => 0, hcs, fun _ => rfl, ⟨fun j hj => by omega, by omega⟩⟩
  · simp only [if_true] at hzl
    refine ⟨some a, len, cap, fun j => UInt8.ofNat (zs.getD j 0).toNat, hcs, (fun h => by cases h), ⟨fun j hj => ?_, by unfold maxLen at hm; omega⟩⟩
    obtain ⟨b, off, spot⟩ := a
    have hc := hcell j (by omega)
    have hspot : spot = none := by simpa [Addr.add] using World.cell?_spot (hcell 0 (by omega))
    subst hspot
    rw [add_plain] at hc
    refine ⟨b, off, rfl, World.block_lt_of_cell? _ _ hc, ?_⟩
    rw [hc]
    have hw := hwf (zs.getD j 0) (by rw [List.getD_eq_getElem?_getD, List.getElem?_eq_getElem (by omega)]; exact List.getElem_mem _)
    have hr : 0 ≤ zs.getD j 0 ∧ zs.getD j 0 < 256 := by
      have h2 : IntKind.u8.min ≤ zs.getD j 0 ∧ zs.getD j 0 ≤ IntKind.u8.max := by simpa [Lit.wf] using hw
      have e1 : IntKind.u8.min = 0 := by decide
      have e2 : IntKind.u8.max = 255 := by decide
      omega
    rw [UInt8.toNat_ofNat']
    congr 2
    omega
end
end Go.Proofs.Qxb6628404aDoor
