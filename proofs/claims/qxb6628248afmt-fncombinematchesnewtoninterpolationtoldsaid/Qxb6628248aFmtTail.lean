/-
  A REGION THAT DRAWS ITS ORDER, ALL OF WHOSE OPERATIONS ONLY READ (they may draw) BUT THE LAST, WHICH WAITS FOR EVERY OTHER ('d[i] = f(d[i] ^ d[i-1], ..)'): one walk in the text's order, then the last operation. A law of our own beside Derived/Deep/Quiet.lean.
-/
import Derived.Deep.QuietTactic
import Derived.BigQuiet
namespace Go.Proofs.Qxb6628248aFmt
open Go

section
variable {P : Program} {ops : Array Oper} {md : Region.Mode} {C : World → Prop}

/-- Does operation n wait for every operation ahead of it? -/
def lastWaits (md : Region.Mode) (ops : Array Oper) (n : Nat) : Bool :=
  (List.range n).all fun i => match ops[n]? with | some o => o.after.any fun e => Region.binds md e && e.on == i | none => false

theorem lastWaits_spec {n i : Nat} {listed : Array Bool} (h : lastWaits md ops n = true) (hi : i < n) (hun : listed.getD i true = false) : n ∉ Region.ready md ops listed := by
  intro hr
  obtain ⟨_, o, ho, hall⟩ := mem_ready.1 hr
  have h1 := List.all_eq_true.1 h i (List.mem_range.2 hi)
  rw [ho] at h1
  obtain ⟨e, he, hb⟩ := Array.any_eq_true'.1 h1
  simp only [Bool.and_eq_true, beq_iff_eq] at hb
  have h2 := hall e he hb.1
  rw [hb.2] at h2
  rcases Nat.lt_or_ge i listed.size with h' | h'
  · simp [h'] at hun h2; rw [hun] at h2; cases h2
  · simp [Array.getElem?_eq_none h'] at hun

/-- Whatever order is picked among the operations ahead of the last. -/
def headQ (P : Program) (md : Region.Mode) (ops : Array Oper) (C : World → Prop) (n : Nat) (L : Act → Prop) : Nat → Array Bool → Act → Prop
  | 0, listed, a => (Region.ready md ops listed = [n] ∧ Region.ready md ops (listed.setIfInBounds n true) = []) ∧ L a
  | f + 1, listed, a => Region.ready md ops listed ≠ [] ∧ ∀ i ∈ Region.ready md ops listed, qOp P ops C i (headQ P md ops C n L f (listed.setIfInBounds i true)) a

theorem headQ_first {n i : Nat} {oi : Oper} {v : Value} {L : Act → Prop} (hi : ops[i]? = some oi) (hin : i < n) (hsel : ∀ (j : Nat) (o : Oper) cs b, ops[j]? = some o → o.op ≠ .select cs b) (hlast : lastWaits md ops n = true) :
    ∀ (f : Nat) (listed : Array Bool) (a : Act),
      (∀ j oj, ops[j]? = some oj → j ≠ i → listed.getD j true = false → (∀ e ∈ oj.after, Region.binds md e = true → e.on ≠ i) → oi.apart ops oj = true) →
      i ∈ Region.ready md ops listed → YieldsIn P ops C oi v a →
      headQ P md ops C n L f (listed.setIfInBounds i true) (a.put oi.dst v) → headQ P md ops C n L (f + 1) listed a := by
  intro f
  induction f with
  | zero =>
    intro listed a _ hr hy H
    refine ⟨fun h => (by rw [h] at hr; cases hr), fun j hj => ?_⟩
    by_cases hji : j = i
    · subst hji; exact hy.qOp hi H
    · have h1 := ready_mono hj hji
      rw [H.1.1] at h1
      have hjn : j = n := by simpa using h1
      subst hjn
      exact absurd hj (lastWaits_spec hlast hin (mem_ready.1 hr).1)
  | succ f ih =>
    intro listed a hfree hr hy H
    refine ⟨fun h => (by rw [h] at hr; cases hr), fun j hj => ?_⟩
    by_cases hji : j = i
    · subst hji; exact hy.qOp hi H
    · have h1 := H.2 j (ready_mono hj hji)
      obtain ⟨hjun, oj, hoj, hall⟩ := mem_ready.1 hj
      have hnot : ∀ e ∈ oj.after, Region.binds md e = true → e.on ≠ i := fun e he hb heq => by
        have h1 := hall e he hb
        have h0 := (mem_ready.1 hr).1
        rw [heq] at h1
        rcases Nat.lt_or_ge i listed.size with h' | h'
        · simp [h'] at h0 h1; rw [h0] at h1; cases h1
        · simp [Array.getElem?_eq_none h'] at h1
      have h2 := qOp_put hoj (hfree j oj hoj hji hjun hnot) (fun cs b => hsel i oi cs b hi) (fun cs b => hsel j oj cs b hoj) hy h1
      refine qOp_mono (fun a' h3 => ih (listed.setIfInBounds j true) a' ?_ (ready_mono hr (Ne.symm hji)) h3.1 ?_) h2
      · intro k ok hk hki hun hno
        refine hfree k ok hk hki ?_ hno
        by_cases hjk : j = k
        · subst hjk; exact hjun
        · rw [getD_set_ne true hjk] at hun; exact hun
      · rw [Array.setIfInBounds_comm _ _ hji]
        exact h3.2

/-- The order of the text among the operations ahead of the last. -/
def headLex (md : Region.Mode) (ops : Array Oper) (n : Nat) : Nat → Nat → Array Bool → Bool
  | 0, _, listed => decide (Region.ready md ops listed = [n]) && (Region.ready md ops (listed.setIfInBounds n true)).isEmpty
  | f + 1, k, listed => (Region.ready md ops listed).contains k && Region.free md ops listed k && headLex md ops n f (k + 1) (listed.setIfInBounds k true)

theorem headQ_lex {n : Nat} {L : Act → Prop} (hs : Region.noSelect ops = true) (hlast : lastWaits md ops n = true) : ∀ (l : List Oper) (k : Nat) (listed : Array Bool) (a : Act), (∀ j, j < l.length → l[j]? = ops[k + j]?) → k + l.length = n →
    headLex md ops n l.length k listed = true → wpQuiet P ops C L l a → headQ P md ops C n L l.length listed a
  | [], _, _, _, _, _, hB, h => by
    simp only [List.length_nil, headLex, Bool.and_eq_true, decide_eq_true_eq, List.isEmpty_iff] at hB
    exact ⟨hB, h⟩
  | o :: l, k, listed, a, hl, hk, hB, h => by
    have h0 : ops[k]? = some o := by simpa using (hl 0 (by simp)).symm
    simp only [List.length_cons, headLex, Bool.and_eq_true] at hB
    obtain ⟨⟨hr, hf⟩, hB'⟩ := hB
    have hst : qOp P ops C k (wpQuiet P ops C L l) a := by unfold qOp; simp only [h0]; exact h
    obtain ⟨v, hy, hK⟩ := yieldsIn_of_qOp h0 hst
    exact headQ_first h0 (by simp only [List.length_cons] at hk; omega) (Region.noSelect_spec hs) hlast l.length listed a (Region.free_spec h0 hf) (by simpa using hr) hy
      (headQ_lex hs hlast l (k + 1) _ _ (fun j hj => by have := hl (j + 1) (by simp; omega); simpa [Nat.add_assoc, Nat.add_comm 1 j] using this) (by simp only [List.length_cons] at hk; omega) hB' hK)

theorem wpAny_of_headQ {n : Nat} {L : Act → Prop} {Q' : Exit → Act → World → Prop} (hL : ∀ a w, C w → L a → wpOp P ops Q' n (fun a' w' => Q' .normal a' w') a w) : ∀ (f : Nat) (listed : Array Bool) (a : Act) (w : World), C w →
    headQ P md ops C n L f listed a → wpAny P md ops Q' (f + 1) listed a w
  | 0, _, a, w, hw, h => ⟨fun h0 => (by rw [h.1.1] at h0; cases h0), fun i hi => by
      rw [h.1.1] at hi
      have hin : i = n := by simpa using hi
      subst hin
      exact wpOp_mono (fun a' w' h' => ⟨h.1.2, h'⟩) (hL a w hw h.2)⟩
  | f + 1, _, _, _, hw, h => ⟨fun h0 => absurd h0 h.1, fun i hi => wpOp_of_qOp hw (fun a' w' hw' => wpAny_of_headQ hL f _ a' w' hw') (h.2 i hi)⟩

/-- Is the region of that kind? -/
def quietLastB (md : Region.Mode) (ops : Array Oper) (n : Nat) : Bool :=
  Region.noSelect ops && lastWaits md ops n && decide (ops.size = n + 1) && headLex md ops n n 0 (Array.replicate ops.size false)

/-- THE LAW: 'l' the operations ahead of the last, 'o' the last. -/
theorem wp_region_quiet_last {id : Nat} {Q : Exit → Act → World → Prop} {a : Act} {w : World} {l : List Oper} {o : Oper} (hm : P.follows .mixedOrders = true) (hB : quietLastB .any (l ++ [o]).toArray l.length = true)
    (h : wpQuiet P (l ++ [o]).toArray (fun w' => ∃ n, w' = w.drewN n) (fun a' => ∀ w', (∃ n, w' = w.drewN n) → wpList P (l ++ [o]).toArray Q [o] a' w') l a) : (Code.region id (l ++ [o]).toArray true).wp P Q a w := by
  simp only [quietLastB, Bool.and_eq_true, decide_eq_true_eq] at hB
  obtain ⟨⟨⟨hs, hlast⟩, hsz⟩, hlex⟩ := hB
  have ho : (l ++ [o]).toArray[l.length]? = some o := by simp
  have H := headQ_lex (P := P) (C := fun w' => ∃ n, w' = w.drewN n) (md := .any) hs hlast l 0 _ a (fun j hj => by simp [List.getElem?_append_left hj]) (by simp) hlex h
  refine wp_region_any hm ?_
  have := wpAny_of_headQ (Q' := Q) (fun a' w' hw' hL => by
    have h1 := hL w' hw'
    unfold wpOp
    simp only [ho]
    exact h1) l.length _ a { w with drawn := w.drawn + 1 } ⟨1, rfl⟩ H
  rw [hsz] at this ⊢
  exact this
/-- The same for a region that is written out. -/
theorem wp_region_last {id : Nat} {Q : Exit → Act → World → Prop} {a : Act} {w : World} {l : List Oper} (n : Nat) (hm : P.follows .mixedOrders = true) (hlen : l.length = n + 1) (hB : quietLastB .any l.toArray n = true)
    (h : wpQuiet P l.toArray (fun w' => ∃ n, w' = w.drewN n) (fun a' => ∀ w', (∃ n, w' = w.drewN n) → wpList P l.toArray Q (l.drop n) a' w') (l.take n) a) : (Code.region id l.toArray true).wp P Q a w := by
  obtain ⟨o, ho⟩ : ∃ o, l.drop n = [o] := List.length_eq_one_iff.1 (by rw [List.length_drop, hlen]; omega)
  have e : l = l.take n ++ [o] := by rw [← ho, List.take_append_drop]
  have hn : (l.take n).length = n := by rw [List.length_take, hlen]; omega
  rw [ho] at h
  have := wp_region_quiet_last (P := P) (id := id) (Q := Q) (a := a) (w := w) (l := l.take n) (o := o) hm (by rw [← e, hn]; exact hB) (by rw [← e]; exact h)
  rwa [← e] at this
end
end Go.Proofs.Qxb6628248aFmt
