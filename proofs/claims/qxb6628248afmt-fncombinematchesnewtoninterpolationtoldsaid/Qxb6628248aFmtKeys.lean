/-
  THE KEYS OF A MAP KEYED BY int, AS A LIST OF NUMBERS: collected in whatever order, sorted; those within 1 .. 255. No Go text in sight.
-/
import Derived.Test.Qxb6628248aFmtLeaf
import Derived.Maps.RangeWalk
import Derived.Sort.KeysCollected
import Derived.Sort.OwnSortedInts
namespace Go.Proofs.Qxb6628248aFmt
open Go.RowKit Go.Maps

theorem pw_mono {α : Type} {R S : α → α → Prop} {l : List α} (hp : l.Pairwise R) (h : ∀ a b, R a b → S a b) : l.Pairwise S := List.Pairwise.imp_of_mem (fun _ _ hr => h _ _ hr) hp
theorem law3 : Keyed Tryf.prog 3 := int_keyed Tryf.underlying3

section
variable {H : Type}
/-- Has the map this key? -/
def hasK (D : DataW H) (x : Int) : Bool := Maps.has D (.int .i64 x)
def keyInt : Lit → Int
  | .int _ x => x
  | _ => 0
def intKeys : DataW H → List Int
  | .map es => es.map fun p => keyInt p.1
  | _ => []
/-- The keys within 1 .. 255, rising. -/
def ks (D : DataW H) : List Nat := (List.range' 1 255).filter fun x => hasK D (x : Int)

theorem mem_ks (D : DataW H) (x : Nat) : x ∈ ks D ↔ (1 ≤ x ∧ x ≤ 255) ∧ hasK D (x : Int) = true := by
  unfold ks
  rw [List.mem_filter, List.mem_range'_1]
  constructor
  · rintro ⟨h1, h2⟩; exact ⟨by omega, h2⟩
  · rintro ⟨h1, h2⟩; exact ⟨by omega, h2⟩
theorem ks_sorted (D : DataW H) : (ks D).Pairwise (· < ·) := List.Pairwise.filter _ (List.pairwise_lt_range')
theorem ks_nodup (D : DataW H) : (ks D).Nodup := pw_mono (ks_sorted D) fun _ _ h => Nat.ne_of_lt h
theorem ks_le (D : DataW H) : (ks D).length ≤ 255 := by
  unfold ks
  have := List.length_filter_le (fun x : Nat => hasK D (x : Int)) (List.range' 1 255)
  simpa using this

variable {R : Value → Option (DataW H × List MemPlace)} {w : World} {b n : Nat} {D : DataW H}
theorem intKeys_facts (hown : w.ownsMap Tryf.prog 3 R b n D) : (intKeys D).Nodup ∧ (intKeys D).length = Maps.size D ∧ ∀ x, x ∈ intKeys D ↔ hasK D x = true := by
  obtain ⟨es, hD, hpw, _⟩ := hown.entries law3
  obtain ⟨es', hD', hko⟩ := hown.keysOf
  obtain rfl : es = es' := by rw [hD] at hD'; simpa using hD'
  subst hD
  have hk : ∀ p ∈ es, ∃ x, p.1 = .int .i64 x := fun p hp => by
    obtain ⟨v, hv⟩ := hko p hp
    obtain ⟨x, _, hx, _⟩ := Maps.keyOf_int_inv Tryf.underlying3 hv
    exact ⟨x, hx⟩
  refine ⟨?_, by simp [intKeys, Maps.size], fun x => ?_⟩
  · show (es.map fun p => keyInt p.1).Nodup
    refine List.pairwise_map.2 (hpw.imp_of_mem fun {p q} hp' hq' hne e => hne ?_)
    obtain ⟨a, ha⟩ := hk p hp'
    obtain ⟨c, hc⟩ := hk q hq'
    rw [ha, hc] at e ⊢
    exact congrArg _ e
  · show x ∈ es.map (fun p => keyInt p.1) ↔ _
    rw [List.mem_map, hasK, has_eq, List.any_eq_true]
    constructor
    · rintro ⟨p, hp', rfl⟩
      obtain ⟨a, ha⟩ := hk p hp'
      exact ⟨p, hp', by rw [ha]; simp [Lit.sameKey, keyInt]⟩
    · rintro ⟨p, hp', hs⟩
      obtain ⟨a, ha⟩ := hk p hp'
      rw [ha] at hs
      refine ⟨p, hp', ?_⟩
      rw [ha]
      simpa [Lit.sameKey, keyInt] using hs

theorem ks_perm (hown : w.ownsMap Tryf.prog 3 R b n D) : ((ks D).map Int.ofNat).Perm ((intKeys D).filter fun x => decide (1 ≤ x ∧ x ≤ 255)) := by
  obtain ⟨hnd, _, hm⟩ := intKeys_facts hown
  refine (List.perm_ext_iff_of_nodup ?_ (List.Pairwise.filter _ hnd)).2 fun x => ?_
  · exact List.pairwise_map.2 (pw_mono (ks_nodup D) fun _ _ h e => h (Int.ofNat.inj e))
  · rw [List.mem_filter, List.mem_map, hm]
    constructor
    · rintro ⟨a, ha, rfl⟩
      obtain ⟨h1, h2⟩ := (mem_ks D a).1 ha
      refine ⟨h2, ?_⟩
      simp only [decide_eq_true_eq]
      show 1 ≤ (a : Int) ∧ (a : Int) ≤ 255
      omega
    · rintro ⟨h1, h2⟩
      simp only [decide_eq_true_eq] at h2
      refine ⟨x.toNat, (mem_ks D _).2 ⟨by omega, ?_⟩, ?_⟩
      · rw [Int.toNat_of_nonneg (by omega)]; exact h1
      · show ((x.toNat : Nat) : Int) = x
        omega
/-- All keys lie in 1 .. 255 just where as many do as there are. -/
theorem ks_all (hown : w.ownsMap Tryf.prog 3 R b n D) : (ks D).length = Maps.size D ↔ ∀ x, hasK D x = true → 1 ≤ x ∧ x ≤ 255 := by
  obtain ⟨_, hl, hm⟩ := intKeys_facts hown
  have hp := (ks_perm hown).length_eq
  rw [List.length_map] at hp
  rw [hp, ← hl, List.length_filter_eq_length_iff]
  constructor
  · intro h x hx
    have := h x ((hm x).2 hx)
    simpa using this
  · intro h x hx
    have := h x ((hm x).1 hx)
    simpa using this
theorem ks_len_le (hown : w.ownsMap Tryf.prog 3 R b n D) : (ks D).length ≤ Maps.size D := by
  obtain ⟨_, hl, _⟩ := intKeys_facts hown
  have hp := (ks_perm hown).length_eq
  rw [List.length_map] at hp
  rw [hp, ← hl]
  exact List.length_filter_le _ _

/-! ### What a range has met so far -/
def CollI (D0 : DataW H) (left : Lit → Bool) (ss : List Int) : Prop := ss.Nodup ∧ ∀ x, x ∈ ss ↔ (hasK D0 x = true ∧ left (.int .i64 x) = false)
theorem CollI.start (D0 : DataW H) : CollI D0 (Maps.has D0) [] := ⟨List.nodup_nil, fun x => by unfold hasK; cases Maps.has D0 (.int .i64 x) <;> simp⟩
theorem CollI.step {D0 : DataW H} {left : Lit → Bool} {ss : List Int} (h : CollI D0 left ss) {x : Int} {y : DataW H} (hlk : left (.int .i64 x) = true) (hat : ∀ zd, D0.atKey (.int .i64 x) zd = y) :
    CollI D0 (fun z => left z && !z.sameKey (.int .i64 x)) (ss ++ [x]) := by
  have hhas : hasK D0 x = true := has_true_of_atKey hat
  have hnew : x ∉ ss := fun hx => by have := ((h.2 x).1 hx).2; rw [hlk] at this; cases this
  refine ⟨List.nodup_append.2 ⟨h.1, by simp, fun a ha b hb => by simp at hb; subst hb; exact fun e => hnew (e ▸ ha)⟩, fun y => ?_⟩
  by_cases hy : y = x
  · subst hy; simp [hhas, Lit.sameKey]
  · simp [h.2 y, hy, Lit.sameKey]
theorem CollI.sort {D0 : DataW H} {left : Lit → Bool} {ss : List Int} (h : CollI D0 left ss) (hl : ∀ kl, left kl = false) (hr : ∀ x, hasK D0 x = true → 1 ≤ x ∧ x ≤ 255) :
    ss.mergeSort (fun x y => decide (x ≤ y)) = (ks D0).map Int.ofNat := by
  have tr : ∀ a b c : Int, decide (a ≤ b) = true → decide (b ≤ c) = true → decide (a ≤ c) = true := fun a b c h1 h2 => by simp only [decide_eq_true_eq] at *; omega
  have to : ∀ a b : Int, (decide (a ≤ b) || decide (b ≤ a)) = true := fun a b => by simp only [Bool.or_eq_true, decide_eq_true_eq]; omega
  refine List.Perm.eq_of_pairwise (le := fun a b => decide (a ≤ b) = true) (fun a b _ _ h1 h2 => ?_) (List.pairwise_mergeSort tr to ss) ?_ ((List.mergeSort_perm ss _).trans ?_)
  · simp only [decide_eq_true_eq] at h1 h2; omega
  · refine List.pairwise_map.2 (pw_mono (ks_sorted D0) fun a b hab => ?_)
    simp only [decide_eq_true_eq]
    exact Int.ofNat_le.2 (Nat.le_of_lt hab)
  · refine (List.perm_ext_iff_of_nodup h.1 ?_).2 fun x => ?_
    · exact List.pairwise_map.2 (pw_mono (ks_nodup D0) fun _ _ h e => h (Int.ofNat.inj e))
    · rw [h.2 x, hl, List.mem_map]
      constructor
      · rintro ⟨h1, _⟩
        have hx := hr x h1
        refine ⟨x.toNat, (mem_ks D0 _).2 ⟨by omega, ?_⟩, ?_⟩
        · rw [Int.toNat_of_nonneg (by omega)]; exact h1
        · show ((x.toNat : Nat) : Int) = x
          omega
      · rintro ⟨a, ha, rfl⟩
        exact ⟨((mem_ks D0 a).1 ha).2, rfl⟩
theorem CollI.length_le {D0 : DataW H} {left : Lit → Bool} {ss : List Int} (hown : w.ownsMap Tryf.prog 3 R b n D0) (h : CollI D0 left ss) (hl : ∀ kl, left kl = false) : ss.length = Maps.size D0 := by
  obtain ⟨hnd, hlen, hm⟩ := intKeys_facts hown
  rw [← hlen]
  exact ((List.perm_ext_iff_of_nodup h.1 hnd).2 fun x => by rw [h.2 x, hl, hm]; simp).length_eq
end
end Go.Proofs.Qxb6628248aFmt
