/-
  THE ERRORS: errors.New, fmt.Errorf at the one format that coordinates uses. What the text is, is not looked at.
-/
import Derived.Test.Qxb6628248aFmtLeaf
import Derived.Stop.CallBack
import Derived.Stop.IfaceNil
import GoSem.ClaimData
namespace Go.Proofs.Qxb6628248aFmt
open Go.RowKit
open Go.Extern.Stop Go.Stop Go.Extern

theorem call16 (args : Array Value) (w : World) : (callFunc 16 args).run Tryf.prog w = ((FmtStop.errorf #[9, 52] #[35] args).run Tryf.prog w).andThen fun v w' => .ok (.value v) w' :=
  run_callFunc_extern Tryf.func16 (by kernel_rfl) (by kernel_rfl) (by kernel_rfl) (by kernel_rfl) args w
theorem guardF (name : String) (w : World) : (FmtStop.guard name).run Tryf.prog w = .ok () w := by kernel_rfl
/-- 'a share at x = %d: x must lie in 1..%d' -/
def fmtBytes : ByteArray := ⟨#[97, 32, 115, 104, 97, 114, 101, 32, 97, 116, 32, 120, 32, 61, 32, 37, 100, 58, 32, 120, 32, 109, 117, 115, 116, 32, 108, 105, 101, 32, 105, 110, 32, 49, 46, 46, 37, 100]⟩
theorem fmt0 : FmtStop.printed? ⟨#[97, 32, 115, 104, 97, 114, 101, 32, 97, 116, 32, 120, 32, 61, 32, 37, 100, 58, 32, 120, 32, 109, 117, 115, 116, 32, 108, 105, 101, 32, 105, 110, 32, 49, 46, 46, 37, 100]⟩ 2 = some [(0, 100, false), (1, 100, false)] := by kernel_rfl
theorem fmt0r (w : World) : (FmtDoors.printed ⟨#[97, 32, 115, 104, 97, 114, 101, 32, 97, 116, 32, 120, 32, 61, 32, 37, 100, 58, 32, 120, 32, 109, 117, 115, 116, 32, 108, 105, 101, 32, 105, 110, 32, 49, 46, 46, 37, 100]⟩ 2).run Tryf.prog w = .ok [(0, 100, false), (1, 100, false)] w := by kernel_rfl
def shape3 : List UInt8 := [5, 3, 0, 0, 0, 0, 0, 0, 0, 105, 110, 116]
theorem op3_100 (name : String) (x : Int) (w : World) : (FmtStop.operand name false 100 false (.iface 3 (.int .i64 x))).run Tryf.prog w = .ok (shape3, Go.Extern.Stop.digits 8 (x % 2 ^ 64).toNat) w := by kernel_rfl
theorem op3_100w (name : String) (x : Int) (w : World) : (FmtStop.operand name true 100 false (.iface 3 (.int .i64 x))).run Tryf.prog w = .ok (shape3, Go.Extern.Stop.digits 8 (x % 2 ^ 64).toNat) w := by kernel_rfl
theorem ptr49 (w : World) : (FmtStop.ptrTo "errors.errorString").run Tryf.prog w = .ok 49 w := by kernel_rfl
theorem elem49 (w : World) : (elemOf 49).run Tryf.prog w = .ok 51 w := by kernel_rfl
theorem ptr53 (w : World) : (FmtStop.ptrTo "fmt.wrapError").run Tryf.prog w = .ok 53 w := by kernel_rfl
theorem elem53 (w : World) : (elemOf 53).run Tryf.prog w = .ok 95 w := by kernel_rfl
attribute [local go_sem] call16 guardF fmt0 fmt0r op3_100 op3_100w ptr49 elem49 ptr53 elem53

set_option maxRecDepth 100000 in
set_option maxHeartbeats 400000 in
theorem new_any (s : ByteArray) (w : World) :
    Calls Tryf.prog 13 #[.string s] w fun e w' => e = .returned (.iface 49 (.pointer (some ⟨w.heap.size, 0, none⟩))) ∧ w' = w.alloc (.cells #[.string s] 51) := by
  go_enter Tryf.func13, Tryf.ntmps13
  go_wp2
  go_ret
  exact ⟨rfl, rfl⟩

set_option maxRecDepth 100000 in
set_option maxHeartbeats 400000 in
theorem errorf_any (F : Interp) (x y : Int) (blk : Nat) (w : World) (hF : F.answers w.tape)
    (hc0 : w.cell? ⟨blk, 0, none⟩ = some (.iface 3 (.int .i64 x))) (hc1 : w.cell? ⟨blk, 1, none⟩ = some (.iface 3 (.int .i64 y))) :
    Calls Tryf.prog 14 #[.string ⟨#[97, 32, 115, 104, 97, 114, 101, 32, 97, 116, 32, 120, 32, 61, 32, 37, 100, 58, 32, 120, 32, 109, 117, 115, 116, 32, 108, 105, 101, 32, 105, 110, 32, 49, 46, 46, 37, 100]⟩, .slice (some ⟨blk, 0, none⟩) 2 2] w fun e w' =>
      e = .returned (.iface 49 (.pointer (some ⟨w.heap.size, 0, none⟩))) ∧ Below w.heap.size w w' := by
  have hF' := answers_open hF
  go_enter Tryf.func14, Tryf.ntmps14
  go_wp2
  go_ret
  exact ⟨rfl, ((Below.refl _ _).alloc (Nat.le_refl _) _).drew⟩
end Go.Proofs.Qxb6628248aFmt
