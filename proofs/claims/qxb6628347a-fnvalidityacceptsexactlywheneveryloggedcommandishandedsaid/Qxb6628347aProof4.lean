/-
  THE ROW of 'FnValidityAcceptsExactlyWhenEveryLoggedCommandIsHanded'; THE STATEMENT.
-/
import Derived.Test.Qxb6628347aLaw4
import Derived.Test.Qxb6628347aOpen
import Derived.OpenShut
namespace Go.Proofs.Qxb6628347a
open Go.RowKit Go.Lib Go.ChangeShapes Go.WideShapes Go.ChangeAt

theorem own : ownKnob Try.prog.godebug = none := by kernel_rfl
theorem laidOut : laidOutB Try.prog = true := by kernel_rfl

set_option maxRecDepth 100000 in
theorem lifted4 (os : Os) (started : os.Started) (H : Type) (enc : TypeId × Value → H) :
    ReturnsInHanded {} Try.checked os 4 .any (Rows.fnValidityAcceptsExactlyWhenEveryLoggedCommandIsHandedSpec.pre6 enc Try.prog Try.f4 Rows.fnValidityAcceptsExactlyWhenEveryLoggedCommandIsHandedRow.domain false) (Rows.fnValidityAcceptsExactlyWhenEveryLoggedCommandIsHandedSpec.post enc Try.prog Try.f4 false true false false) := by
  refine returnsInHanded_of_change (C := Try.checked) own started (by kernel_rfl) Try.func4
    (ChangeSpec.witness6 (enc := enc) (C := Try.checked) false ⟨#[], #[.slice none 0 0, .slice none 0 0, .int .i64 0], []⟩ 8 (by kernel_rfl) (by kernel_rfl) (by kernel_rfl) (by kernel_rfl)) ?_
  intro W base args ds gs before hval0 hW hcnd _
  have hval : ∀ (j : Nat) t v, Try.f4.params[j]? = some t → args[j]? = some v → Value.okWide Try.prog W .any base t v := hval0
  have hW' := hW
  obtain ⟨p, q, hA0, hV, rfl, hfz, hnd⟩ := hW
  have hA : DataW.TrodAll enc Try.prog W 0 (fun _ => true) true Try.f4.params.toList args.toList ds p := hA0
  rw [Try.params4] at hA hval
  obtain ⟨v0, vs0, d0, ds0, p0, q0, hargs, rfl, rfl, h0, r0⟩ := trodAll_cons hA
  obtain ⟨v1, vs1, d1, ds1, p1, q1, rfl, rfl, rfl, h1, r1⟩ := trodAll_cons r0
  obtain ⟨v2, vs2, d2, ds2, p2, q2, rfl, rfl, rfl, h2, r2⟩ := trodAll_cons r1
  obtain ⟨rfl, rfl, rfl⟩ := trodAll_nil r2
  obtain rfl : args = #[v0, v1, v2] := by cases args; simp_all
  obtain ⟨rfl, rfl⟩ := trodVars_none hV
  obtain ⟨x0, l0, c0, rfl⟩ := okWide_slice Try.underlying22 (hval 0 22 v0 rfl rfl)
  obtain ⟨x1, l1, c1, rfl⟩ := okWide_slice Try.underlying23 (hval 1 23 v1 rfl rfl)
  obtain ⟨z, rfl, rfl, rfl, w2⟩ := open_int Try.underlying3 (hval 2 3 v2 rfl rfl) h2
  clear hA0 hval0
  simp only [List.append_nil] at hW'
  have hlt : ∀ x ∈ p0 ++ p1, x.block < W.heap.size := fun x hx => by simpa using hW'.lt x hx
  have k0 := h0
  have k1 := h1
  obtain ⟨f0, h0⟩ := h0
  obtain ⟨f1, h1⟩ := h1
  obtain ⟨A, n, c, S, e0, _, hS⟩ := strs_of h0
  obtain ⟨A2, m, c2, a, L, C, T, e1, hc, hG⟩ := grid_of h1
  simp [Value.cells] at e0 e1
  obtain ⟨rfl, rfl, rfl⟩ := e0
  obtain ⟨rfl, rfl, rfl⟩ := e1
  refine (law4_any _ _ _ S _ _ _ a L C T z W hS hG).mono fun e W' ⟨he, hb⟩ => ?_
  subst he
  have hag : DataW.TrodAll enc Try.prog W' 0 (fun b => decide (b < W.heap.size)) true [22, 23, 3] [.slice x0 l0 c0, .slice x1 l1 c1, .int .i64 z] [d0, d1, .lit (.int .i64 z)] (p0 ++ p1) := by
    have := trodAll_cons_mk (Below.trod laidOut (by kernel_rfl) (of_decide_eq_true (by kernel_rfl)) k0 hb (fun x hx => hlt x (List.mem_append_left _ hx)))
      (trodAll_cons_mk (Below.trod laidOut (by kernel_rfl) (of_decide_eq_true (by kernel_rfl)) k1 hb (fun x hx => hlt x (List.mem_append_right _ hx))) (trodAll_cons_mk (shut_int Try.underlying3 w2) trodAll_mk0))
    simpa using this
  exact ⟨_, rfl, _, _, _, [], p0 ++ p1, [], hW', trodAll_mk1 (shut_bool Try.underlying4 true), hag, rfl, hb.frame _, fun h => by cases h⟩

theorem proved4 : Rows.FnValidityAcceptsExactlyWhenEveryLoggedCommandIsHandedSaid :=
  OpenClaim.holds_of_wide 4 Try.f4 rfl rfl rfl rfl rfl rfl rfl ⟨rfl, rfl, rfl, rfl, rfl⟩ rfl rfl rfl rfl rfl (by kernel_rfl) Try.func4 (by kernel_rfl)
    (of_decide_eq_true (by kernel_rfl)) (by unfold Func.isWrapper; first | (rw [if_pos (by decide +kernel)]; kernel_rfl) | (rw [if_neg (by decide +kernel)]; exact ⟨rfl, rfl⟩))
    (fun os started H enc _ => lifted4 os started H enc)
#print axioms proved4
end Go.Proofs.Qxb6628347a
