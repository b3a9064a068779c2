/-
  Combine where coordinates errs: nil and that error.
-/
import Derived.Test.Qxb6628248aFmtCoord
namespace Go.Proofs.Qxb6628248aFmt
open Go.RowKit Go.Maps Go.Sort
open Go.Extern.Stop Go.Stop Go.Extern

set_option maxRecDepth 100000 in
set_option maxHeartbeats 400000 in
theorem comb_err (mv : Value) (w : World) (hco : Calls Tryf.prog 10 #[mv] w fun e w' => Below w.heap.size w w' ∧ ∃ t p, e = .returned (.tuple #[.slice none 0 0, .int .i64 0, .iface t p])) :
    Calls Tryf.prog 7 #[mv] w fun e w' => Below w.heap.size w w' ∧ ∃ t p, e = .returned (.tuple #[.slice none 0 0, .iface t p]) := by
  go_enter Tryf.func7, Tryf.ntmps7
  go_wp2_with fail
  refine hco.mono ?_
  rintro e w1 ⟨hb1, t, p, rfl⟩
  go_wp2
  go_ret2
  exact ⟨hb1, _, _, rfl⟩
end Go.Proofs.Qxb6628248aFmt
