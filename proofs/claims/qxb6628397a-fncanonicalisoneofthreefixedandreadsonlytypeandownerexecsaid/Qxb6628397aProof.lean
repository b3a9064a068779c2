/-
  THE LAW 'FnCanonicalIsOneOfThreeFixedAndReadsOnlyTypeAndOwnerExec': the given shell, its walk filled.
-/
import Derived.Test.Qxb6628397aRows
import Derived.WalkKit
import Derived.ProofKit
import Derived.OpenShut
import Derived.ShutString
import Derived.Laws.BitsAllLaws
namespace Go.Proofs.Qxb6628397a
open Go.ChangeShapes Go.WideShapes Go.ChangeAt Go.RowKit
open Go.ChangeMaps (open_string shut_string)
set_option linter.unusedVariables false      -- a walk need not use every 'w<i>' (that an integer argument fits its kind)

theorem own : ownKnob Try.prog.godebug = none := by kernel_rfl

/-! ### The plain law -/
/-- What Canonical answers. -/
def can (z : Int) : Int := if (bits .and .u32 z 61440 == 40960) = true then 40960 else if (bits .and .u32 z 64 != 0) = true then 33261 else 33188

theorem mixed (a b k : Nat) (h1 : 61504 &&& k = k) (h2 : 4294905791 &&& k = 0) : (a &&& 61504 ||| b &&& 4294905791) &&& k = a &&& k := by
  rw [Nat.and_or_distrib_right, Nat.and_assoc, Nat.and_assoc, h1, h2]
  simp

theorem mix_bits (a b : Nat) (ha : a < 4294967296) (hb : b < 4294967296) (k : Nat) (hk : k < 4294967296) (h1 : 61504 &&& k = k) (h2 : 4294905791 &&& k = 0) :
    bits .and .u32 (bits .or .u32 (bits .and .u32 (a : Int) 61504) (bits .andNot .u32 (b : Int) 61504)) (k : Int) = bits .and .u32 (a : Int) (k : Int) := by
  have e1 : bits .and .u32 (a : Int) 61504 = ((a &&& 61504 : Nat) : Int) := u32_and_nat a 61504 ha (by decide)
  have e2 : bits .andNot .u32 (b : Int) 61504 = ((b &&& (4294967295 - 61504) : Nat) : Int) := u32_andNot_nat b 61504 hb (by decide)
  have l1 : a &&& 61504 < 4294967296 := Nat.lt_of_le_of_lt Nat.and_le_left ha
  have l2 : b &&& 4294905791 < 4294967296 := Nat.lt_of_le_of_lt Nat.and_le_left hb
  have l3 : a &&& 61504 ||| b &&& 4294905791 < 4294967296 := Nat.or_lt_two_pow (n := 32) l1 l2
  rw [e1, e2, show 4294967295 - 61504 = 4294905791 from rfl, u32_or_nat _ _ l1 l2, u32_and_nat _ _ l3 hk, u32_and_nat _ _ ha hk, mixed a b k h1 h2]

theorem can_mix (a b : Nat) (ha : a < 4294967296) (hb : b < 4294967296) : can (bits .or .u32 (bits .and .u32 (a : Int) 61504) (bits .andNot .u32 (b : Int) 61504)) = can (a : Int) := by
  have h1 := mix_bits a b ha hb 61440 (by decide) (by decide) (by decide)
  have h2 := mix_bits a b ha hb 64 (by decide) (by decide) (by decide)
  unfold can
  rw [show ((61440 : Nat) : Int) = 61440 from rfl] at h1
  rw [show ((64 : Nat) : Int) = 64 from rfl] at h2
  rw [h1, h2]

theorem can_three (z : Int) : can z = 33188 ∨ can z = 33261 ∨ can z = 40960 := by
  unfold can
  split
  · exact .inr (.inr rfl)
  · split
    · exact .inr (.inl rfl)
    · exact .inl rfl
theorem can_file : can 33188 = 33188 := by decide +kernel
theorem can_exec : can 33261 = 33261 := by decide +kernel
theorem can_link : can 40960 = 40960 := by decide +kernel

/-! ### The walks -/
theorem can_walk (z : Int) (w : World) : Calls Try.prog 4 #[.int .u32 z] w fun e w' => e = .returned (.int .u32 (can z)) ∧ w' = w := by
  unfold can
  by_cases h1 : (bits .and .u32 z 61440 == 40960) = true
  · rw [if_pos h1]
    go_enter Try.func4, Try.ntmps4
    go_wp2
    go_ret
    exact ⟨rfl, rfl⟩
  · rw [if_neg h1]
    by_cases h2 : (bits .and .u32 z 64 != 0) = true
    · rw [if_pos h2]
      go_enter Try.func4, Try.ntmps4
      go_wp2
      go_ret
      exact ⟨rfl, rfl⟩
    · rw [if_neg h2]
      go_enter Try.func4, Try.ntmps4
      go_wp2
      go_ret
      exact ⟨rfl, rfl⟩

theorem walk (a0 : Int) (a1 : Int) (w0 : (Lit.int .u32 a0).wf = true) (w1 : (Lit.int .u32 a1).wf = true) (w : World) :
    Calls Try.prog 3 #[.int .u32 a0, .int .u32 a1] w fun e w' => e = .returned (.bool true) ∧ Grown w w' := by
  have b0 : 0 ≤ a0 ∧ a0 ≤ 4294967295 := by simpa [Lit.wf, IntKind.min, IntKind.max, IntKind.signed, IntKind.bits] using w0
  have b1 : 0 ≤ a1 ∧ a1 ≤ 4294967295 := by simpa [Lit.wf, IntKind.min, IntKind.max, IntKind.signed, IntKind.bits] using w1
  obtain ⟨a, rfl⟩ : ∃ a : Nat, a0 = (a : Int) := ⟨a0.toNat, by omega⟩
  obtain ⟨b, rfl⟩ : ∃ b : Nat, a1 = (b : Int) := ⟨a1.toNat, by omega⟩
  have HM : Hid (can (bits .or .u32 (bits .and .u32 (a : Int) 61504) (bits .andNot .u32 (b : Int) 61504)) = can (a : Int)) := can_mix a b (by omega) (by omega)
  have h3 := can_three (a : Int)
  have K1 := can_walk (a : Int) w
  have K3 := can_walk (bits .or .u32 (bits .and .u32 (a : Int) 61504) (bits .andNot .u32 (b : Int) 61504)) w
  rw [HM.out] at K3
  clear w0 w1 b0 b1 HM
  rcases h3 with h3 | h3 | h3
  all_goals
    rw [h3] at K1 K3
    clear h3
  · have K2 := can_walk 33188 w
    rw [can_file] at K2
    go_enter Try.func3, Try.ntmps3
    go_wp2_with (first
      | (go_at_call 4; refine K1.mono ?_; rintro e w' ⟨rfl, hw⟩; obtain rfl := hw.symm; clear K1)
      | (go_at_call 4; refine K2.mono ?_; rintro e w' ⟨rfl, hw⟩; obtain rfl := hw.symm; clear K2)
      | (go_at_call 4; refine K3.mono ?_; rintro e w' ⟨rfl, hw⟩; obtain rfl := hw.symm; clear K3)
      | fail)
    go_ret
    exact ⟨rfl, Grown.refl _⟩
  · have K2 := can_walk 33261 w
    rw [can_exec] at K2
    go_enter Try.func3, Try.ntmps3
    go_wp2_with (first
      | (go_at_call 4; refine K1.mono ?_; rintro e w' ⟨rfl, hw⟩; obtain rfl := hw.symm; clear K1)
      | (go_at_call 4; refine K2.mono ?_; rintro e w' ⟨rfl, hw⟩; obtain rfl := hw.symm; clear K2)
      | (go_at_call 4; refine K3.mono ?_; rintro e w' ⟨rfl, hw⟩; obtain rfl := hw.symm; clear K3)
      | fail)
    go_ret
    exact ⟨rfl, Grown.refl _⟩
  · have K2 := can_walk 40960 w
    rw [can_link] at K2
    go_enter Try.func3, Try.ntmps3
    go_wp2_with (first
      | (go_at_call 4; refine K1.mono ?_; rintro e w' ⟨rfl, hw⟩; obtain rfl := hw.symm; clear K1)
      | (go_at_call 4; refine K2.mono ?_; rintro e w' ⟨rfl, hw⟩; obtain rfl := hw.symm; clear K2)
      | (go_at_call 4; refine K3.mono ?_; rintro e w' ⟨rfl, hw⟩; obtain rfl := hw.symm; clear K3)
      | fail)
    go_ret
    exact ⟨rfl, Grown.refl _⟩

/-! ### THE ROW's STEP: WRITTEN OUT: LEAVE IT -/
set_option maxRecDepth 100000 in
theorem lifted (os : Os) (started : os.Started) (H : Type) (enc : TypeId × Value → H) :
    ReturnsInHanded {} Try.checked os 3 .any (Rows.fnCanonicalIsOneOfThreeFixedAndReadsOnlyTypeAndOwnerExecSpec.pre6 enc Try.prog Try.f3 Rows.fnCanonicalIsOneOfThreeFixedAndReadsOnlyTypeAndOwnerExecRow.domain false) (Rows.fnCanonicalIsOneOfThreeFixedAndReadsOnlyTypeAndOwnerExecSpec.post enc Try.prog Try.f3 false true false false) := by
  refine returnsInHanded_of_change (C := Try.checked) own started (by kernel_rfl) Try.func3
    (ChangeSpec.witness6 (enc := enc) (C := Try.checked) false ⟨#[], #[.int .u32 0, .int .u32 0], []⟩ 8 (by kernel_rfl) (by kernel_rfl) (by kernel_rfl) (by kernel_rfl)) ?_
  intro W base args ds gs before hval0 hW hcnd _
  have hval : ∀ (j : Nat) t v, Try.f3.params[j]? = some t → args[j]? = some v → Value.okWide Try.prog W .any base t v := hval0
  have hW' := hW
  obtain ⟨p, q, hA0, hV, rfl, hfz, hnd⟩ := hW
  have hA : DataW.TrodAll enc Try.prog W 0 (fun _ => true) true Try.f3.params.toList args.toList ds p := hA0
  rw [Try.params3] at hA hval
  obtain ⟨v0, vs0, d0, ds0, p0, q0, hargs, rfl, rfl, h0, r0⟩ := trodAll_cons hA
  obtain ⟨v1, vs1, d1, ds1, p1, q1, rfl, rfl, rfl, h1, r1⟩ := trodAll_cons r0
  obtain ⟨rfl, rfl, rfl⟩ := trodAll_nil r1
  obtain rfl : args = #[v0, v1] := by cases args; simp_all
  obtain ⟨rfl, rfl⟩ := trodVars_none hV
  obtain ⟨a0, rfl, rfl, rfl, w0⟩ := open_int Try.underlying22 (hval 0 22 v0 rfl rfl) h0
  obtain ⟨a1, rfl, rfl, rfl, w1⟩ := open_int Try.underlying22 (hval 1 22 v1 rfl rfl) h1
  clear hA0 hval0
  simp only [List.append_nil] at hW'
  refine (walk a0 a1 w0 w1 W).mono fun e W' ⟨he, hg⟩ => ?_
  subst he
  exact ⟨_, rfl, post_of_same (pa := []) (pv := []) hW' (fun _ _ _ => (trodAll_cons_mk (shut_bool Try.underlying4 _) trodAll_mk0)) (fun sp _ => (trodAll_cons_mk (shut_int Try.underlying22 w0) (trodAll_cons_mk (shut_int Try.underlying22 w1) trodAll_mk0))) (fun _ _ => rfl) rfl
    (hg.frame _) hg.2.1 (ok_one (by kernel_rfl) rfl (okWide_bool_mk Try.underlying4 _))⟩

theorem over : Rows.fnCanonicalIsOneOfThreeFixedAndReadsOnlyTypeAndOwnerExecRow.holds Try.pinned (OpenSpec.ofChange Rows.fnCanonicalIsOneOfThreeFixedAndReadsOnlyTypeAndOwnerExecSpec) :=
  OpenClaim.holds_of_wide 3 Try.f3 rfl rfl rfl rfl rfl rfl rfl ⟨rfl, rfl, rfl, rfl, rfl⟩ rfl rfl rfl rfl rfl (by kernel_rfl) Try.func3 (by kernel_rfl)
    (of_decide_eq_true (by kernel_rfl)) (by unfold Func.isWrapper; first | (rw [if_pos (by decide +kernel)]; kernel_rfl) | (rw [if_neg (by decide +kernel)]; exact ⟨rfl, rfl⟩))
    (fun os started H enc _ => lifted os started H enc)

/-- ████ THE STATEMENT ████ -/
theorem proved : Rows.FnCanonicalIsOneOfThreeFixedAndReadsOnlyTypeAndOwnerExecSaid :=
  over
#print axioms proved
end Go.Proofs.Qxb6628397a
