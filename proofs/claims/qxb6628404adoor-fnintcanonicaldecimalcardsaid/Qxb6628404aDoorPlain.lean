/-
  THE PLAIN LAW: decimal texts, ParseInt's answer, the canonical spelling. No Go in sight.
-/
import Derived.Lib.ParseIntB
namespace Go.Proofs.Qxb6628404aDoor
open Go.Lib

def Dig (c : UInt8) : Prop := 48 ≤ c.toNat ∧ c.toNat ≤ 57
/-- The number that k digits from place i on spell. -/
def dv (f : Nat → UInt8) (i : Nat) : Nat → Nat
  | 0 => 0
  | k + 1 => dv f i k * 10 + ((f (i + k)).toNat - 48)
def txt (f : Nat → UInt8) (i k : Nat) : List UInt8 := (List.range k).map fun j => f (i + j)
theorem txt_succ (f : Nat → UInt8) (i k : Nat) : txt f i (k + 1) = txt f i k ++ [f (i + k)] := by simp [txt, List.range_succ]
theorem txt_length (f : Nat → UInt8) (i k : Nat) : (txt f i k).length = k := by simp [txt]
theorem txt_cons (f : Nat → UInt8) (i k : Nat) : txt f i (k + 1) = f i :: txt f (i + 1) k := by
  simp only [txt, List.range_succ_eq_map, List.map_cons, List.map_map, Nat.add_zero]
  congr 1
  exact List.map_congr_left fun j _ => by simp [Nat.add_comm, Nat.add_left_comm]
theorem mem_txt {f : Nat → UInt8} {i k : Nat} {c : UInt8} : c ∈ txt f i k ↔ ∃ j, j < k ∧ f (i + j) = c := by simp [txt]

/-! ### Values -/
def valL (acc : Nat) (l : List UInt8) : Nat := l.foldl (fun a c => a * 10 + (c.toNat - 48)) acc
theorem valL_txt (f : Nat → UInt8) (i k : Nat) : valL 0 (txt f i k) = dv f i k := by
  induction k with
  | zero => rfl
  | succ k ih =>
    have e : valL 0 (txt f i k ++ [f (i + k)]) = valL 0 (txt f i k) * 10 + ((f (i + k)).toNat - 48) := by simp [valL, List.foldl_append]
    rw [txt_succ, e, ih]; rfl
theorem valL_ge (acc : Nat) (l : List UInt8) : acc ≤ valL acc l := by
  induction l generalizing acc with
  | nil => exact Nat.le_refl _
  | cons c r ih => exact Nat.le_trans (by omega) (ih (acc * 10 + (c.toNat - 48)))

theorem pu_ok {M acc u : Nat} {l : List UInt8} (h : parseUintM M acc l = .ok u) : (∀ c ∈ l, Dig c) ∧ u = valL acc l := by
  induction l generalizing acc with
  | nil =>
    simp only [parseUintM] at h
    cases h
    exact ⟨fun c hc => (by cases hc), rfl⟩
  | cons c r ih =>
    simp only [parseUintM] at h
    split at h
    · rename_i hd
      split at h
      · cases h
      · split at h
        · cases h
        · obtain ⟨h1, h2⟩ := ih h
          refine ⟨fun x hx => ?_, h2⟩
          rcases List.mem_cons.1 hx with rfl | hx
          · exact hd
          · exact h1 x hx
    · cases h
theorem pu_le {M acc u : Nat} {l : List UInt8} (h : parseUintM M acc l = .ok u) (hne : ¬ l = []) : u ≤ M := by
  induction l generalizing acc with
  | nil => exact absurd rfl hne
  | cons c r ih =>
    simp only [parseUintM] at h
    split at h
    · split at h
      · cases h
      · split at h
        · cases h
        · by_cases hr : r = []
          · subst hr
            simp only [parseUintM] at h
            cases h
            omega
          · exact ih h hr
    · cases h
theorem pu_mk {M acc : Nat} {l : List UInt8} (hd : ∀ c ∈ l, Dig c) (hv : valL acc l ≤ M) (hM : M ≤ 18446744073709551615) : parseUintM M acc l = .ok (valL acc l) := by
  induction l generalizing acc with
  | nil => rfl
  | cons c r ih =>
    have hge := valL_ge (acc * 10 + (c.toNat - 48)) r
    have hv' : valL (acc * 10 + (c.toNat - 48)) r ≤ M := hv
    have hc := hd c (List.mem_cons_self ..)
    simp only [parseUintM]
    unfold Dig at hc
    rw [if_pos hc, if_neg (by omega), if_neg (by omega)]
    exact ih (fun x hx => hd x (List.mem_cons_of_mem _ hx)) hv'

theorem dv_add (f : Nat → UInt8) (i j k : Nat) : dv f i (j + k) = dv f i j * 10 ^ k + dv f (i + j) k := by
  induction k with
  | zero => simp [dv]
  | succ k ih =>
    rw [← Nat.add_assoc, dv, ih, dv, Nat.pow_succ, Nat.add_assoc i j k, Nat.add_mul, Nat.mul_assoc, Nat.add_assoc]
theorem dv_lt {f : Nat → UInt8} {i k : Nat} (h : ∀ j, j < k → Dig (f (i + j))) : dv f i k < 10 ^ k := by
  induction k with
  | zero => simp [dv]
  | succ k ih =>
    have h1 := ih (fun j hj => h j (by omega))
    have h2 := h k (by omega)
    unfold Dig at h2
    rw [dv, Nat.pow_succ]
    omega
theorem dv_one (f : Nat → UInt8) (i : Nat) : dv f i 1 = (f i).toNat - 48 := by simp [dv]
theorem dv_ge {f : Nat → UInt8} {i k : Nat} (h : 49 ≤ (f i).toNat) : 10 ^ k ≤ dv f i (k + 1) := by
  rw [Nat.add_comm, dv_add, dv_one]
  exact Nat.le_trans (Nat.le_mul_of_pos_left _ (by omega)) (Nat.le_add_right _ _)
theorem dv_congr {f g : Nat → UInt8} {i i' k : Nat} (h : ∀ j, j < k → f (i + j) = g (i' + j)) : dv f i k = dv g i' k := by
  induction k with
  | zero => rfl
  | succ k ih => rw [dv, dv, ih (fun j hj => h j (by omega)), h k (by omega)]
/-- Two texts of one length that agree up to place j: the greater digit there decides. -/
theorem dv_lex {f g : Nat → UInt8} {i i' j r : Nat} (he : ∀ t, t < j → f (i + t) = g (i' + t)) (hf : ∀ t, t < j + (1 + r) → Dig (f (i + t))) (hg : Dig (g (i' + j))) (hlt : (f (i + j)).toNat < (g (i' + j)).toNat) : dv f i (j + (1 + r)) < dv g i' (j + (1 + r)) := by
  rw [dv_add f i j, dv_add g i' j, dv_congr he, dv_add f (i + j) 1 r, dv_add g (i' + j) 1 r, dv_one, dv_one]
  have h1 := dv_lt (f := f) (i := i + j + 1) (k := r) (fun t ht => by have := hf (j + (1 + t)) (by omega); rwa [show i + (j + (1 + t)) = i + j + 1 + t by omega] at this)
  have h2 := hf j (by omega)
  unfold Dig at h2 hg
  have h3 : ((f (i + j)).toNat - 48 + 1) * 10 ^ r ≤ ((g (i' + j)).toNat - 48) * 10 ^ r := Nat.mul_le_mul_right _ (by omega)
  rw [Nat.add_mul] at h3
  omega

/-! ### The decimal spelling -/
def digs : Nat → Nat → List UInt8
  | 0, _ => []
  | k + 1, u => (if u < 10 then [] else digs k (u / 10)) ++ [UInt8.ofNat (48 + u % 10)]
theorem digs_txt {f : Nat → UInt8} {i : Nat} (h0 : 49 ≤ (f i).toNat) : ∀ (d k : Nat), d < k → (∀ j, j < d + 1 → Dig (f (i + j))) → digs k (dv f i (d + 1)) = txt f i (d + 1)
  | 0, 0, h, _ => by omega
  | 0, k + 1, _, hd => by
    have h1 := hd 0 (by omega)
    unfold Dig at h1
    rw [Nat.add_zero] at h1
    rw [dv_one, digs, if_pos (by omega), txt_succ]
    simp only [txt, List.range_zero, List.map_nil, List.nil_append, Nat.add_zero]
    rw [Nat.mod_eq_of_lt (by omega), show 48 + ((f i).toNat - 48) = (f i).toNat by omega, UInt8.ofNat_toNat]
  | d + 1, 0, h, _ => by omega
  | d + 1, k + 1, h, hd => by
    have h1 := hd (d + 1) (by omega)
    unfold Dig at h1
    have h2 : 10 ^ d ≤ dv f i (d + 1) := dv_ge h0
    have h3 : 1 ≤ 10 ^ d := Nat.pow_pos (by omega)
    have e : dv f i (d + 1 + 1) = dv f i (d + 1) * 10 + ((f (i + (d + 1))).toNat - 48) := rfl
    rw [digs, e, if_neg (by omega), show (dv f i (d + 1) * 10 + ((f (i + (d + 1))).toNat - 48)) / 10 = dv f i (d + 1) by omega, digs_txt h0 d k (by omega) (fun j hj => hd j (by omega)), txt_succ f i (d + 1),
      show (dv f i (d + 1) * 10 + ((f (i + (d + 1))).toNat - 48)) % 10 = (f (i + (d + 1))).toNat - 48 by omega, show 48 + ((f (i + (d + 1))).toNat - 48) = (f (i + (d + 1))).toNat by omega, UInt8.ofNat_toNat]
def itoaL (v : Int) : List UInt8 := if v < 0 then 45 :: digs 20 (-v).toNat else digs 20 v.toNat

/-! ### The texts -/
def sg (f : Nat → UInt8) (n : Nat) : Nat := if 0 < n ∧ f 0 = 45 then 1 else 0
theorem sg_le (f : Nat → UInt8) (n : Nat) : sg f n ≤ 1 := by unfold sg; split <;> omega
/-- What a JSON number is known by here. -/
def Num (f : Nat → UInt8) (n : Nat) : Prop := sg f n < n ∧ Dig (f (sg f n)) ∧ (f (sg f n) = 48 → sg f n + 1 = n ∨ ¬ Dig (f (sg f n + 1)))
def Canon (f : Nat → UInt8) (n : Nat) : Prop :=
  (n = 1 ∧ f 0 = 48) ∨ (sg f n < n ∧ 49 ≤ (f (sg f n)).toNat ∧ (∀ j, sg f n ≤ j → j < n → Dig (f j)) ∧ dv f (sg f n) (n - sg f n) ≤ (if sg f n = 1 then 9223372036854775808 else 9223372036854775807))
def MinusZero (f : Nat → UInt8) (n : Nat) : Prop := n = 2 ∧ f 0 = 45 ∧ f 1 = 48

theorem u8_of {c : UInt8} {k : Nat} (h : c.toNat = k) : c = UInt8.ofNat k := by rw [← h, UInt8.ofNat_toNat]
theorem sg_one {f : Nat → UInt8} {n : Nat} (h : sg f n = 1) : 0 < n ∧ f 0 = 45 := by
  unfold sg at h
  split at h
  · assumption
  · omega
theorem sg_zero {f : Nat → UInt8} {n : Nat} (h : sg f n ≠ 1) (hn : 0 < n) : sg f n = 0 ∧ f 0 ≠ 45 := by
  unfold sg at h ⊢
  split at h
  · omega
  · rename_i h'
    rw [if_neg h']
    exact ⟨rfl, fun e => h' ⟨hn, e⟩⟩

theorem parse_minus (f : Nat → UInt8) (k : Nat) (h0 : f 0 = 45) (v : Int) : parseIntB 64 (txt f 0 (k + 1)) = .ok v ↔ ∃ u, parseUintB 64 (txt f 1 k) = .ok u ∧ u ≤ 9223372036854775808 ∧ v = -(u : Int) := by
  have h45 : (f 0).toNat = 45 := by rw [h0]; rfl
  rw [txt_cons]
  simp only [parseIntB, h45, or_true, if_true, Nat.zero_add]
  cases hp : parseUintB 64 (txt f 1 k) with
  | ok u =>
    simp only [not_true_eq_false, false_and, if_false, true_and]
    by_cases hu : 2 ^ (64 - 1) < u
    · rw [if_pos hu]
      refine ⟨(fun h => by cases h), fun ⟨u', h1, h2, _⟩ => ?_⟩
      cases h1
      omega
    · rw [if_neg hu]
      constructor
      · intro h; cases h; exact ⟨u, rfl, by omega, rfl⟩
      · rintro ⟨u', h1, h2, rfl⟩; cases h1; rfl
  | _ => simp
theorem parse_plus (f : Nat → UInt8) (k : Nat) (h0 : Dig (f 0)) (v : Int) : parseIntB 64 (txt f 0 (k + 1)) = .ok v ↔ ∃ u, parseUintB 64 (txt f 0 (k + 1)) = .ok u ∧ u ≤ 9223372036854775807 ∧ v = (u : Int) := by
  unfold Dig at h0
  have h45 : ¬ (f 0).toNat = 45 := by omega
  have h43 : ¬ (f 0).toNat = 43 := by omega
  have e : parseIntB 64 (txt f 0 (k + 1)) = match parseUintB 64 (txt f 0 (k + 1)) with
      | .ok u => if 2 ^ (64 - 1) ≤ u then .range else .ok (u : Int)
      | .range => .range
      | _ => parseIntB 64 [] := by
    rw [txt_cons]
    simp only [parseIntB, h45, h43, or_self, if_false]
    cases parseUintB 64 (f 0 :: txt f (0 + 1) k) with
    | ok u => simp
    | _ => rfl
  rw [e]
  cases hp : parseUintB 64 (txt f 0 (k + 1)) with
  | ok u =>
    by_cases hu : 2 ^ (64 - 1) ≤ u
    · simp only [if_pos hu]
      refine ⟨(fun h => by cases h), fun ⟨u', h1, h2, _⟩ => ?_⟩
      cases h1
      omega
    · simp only [if_neg hu]
      constructor
      · intro h; cases h; exact ⟨u, rfl, by omega, rfl⟩
      · rintro ⟨u', h1, h2, rfl⟩; cases h1; rfl
  | _ => simp [parseIntB]

theorem pub {f : Nat → UInt8} {i k u : Nat} : parseUintB 64 (txt f i (k + 1)) = .ok u ↔ (∀ j, j < k + 1 → Dig (f (i + j))) ∧ u = dv f i (k + 1) ∧ u ≤ 18446744073709551615 := by
  have hne : ¬ txt f i (k + 1) = [] := fun h => by have := txt_length f i (k + 1); rw [h] at this; cases this
  unfold parseUintB
  rw [if_neg hne]
  constructor
  · intro h
    obtain ⟨h1, h2⟩ := pu_ok h
    rw [valL_txt] at h2
    refine ⟨fun j hj => h1 _ (mem_txt.2 ⟨j, hj, rfl⟩), h2, ?_⟩
    exact pu_le h hne
  · rintro ⟨h1, rfl, h3⟩
    rw [← valL_txt]
    exact pu_mk (fun c hc => by obtain ⟨j, hj, rfl⟩ := mem_txt.1 hc; exact h1 j hj) (by rw [valL_txt]; omega) (by omega)

/-- What ParseInt answers at a number's text. -/
theorem parse_num {f : Nat → UInt8} {n : Nat} (h : Num f n) (v : Int) : parseIntB 64 (txt f 0 n) = .ok v ↔
    (∀ j, sg f n ≤ j → j < n → Dig (f j)) ∧ dv f (sg f n) (n - sg f n) ≤ (if sg f n = 1 then 9223372036854775808 else 9223372036854775807) ∧ v = (if sg f n = 1 then -(dv f (sg f n) (n - sg f n) : Int) else (dv f (sg f n) (n - sg f n) : Int)) := by
  obtain ⟨hlt, hd, _⟩ := h
  by_cases hs : sg f n = 1
  · rw [hs] at hlt ⊢
    obtain ⟨_, h0⟩ := sg_one hs
    obtain ⟨k, rfl⟩ : ∃ k, n = k + 1 + 1 := ⟨n - 2, by omega⟩
    rw [parse_minus f (k + 1) h0, show k + 1 + 1 - 1 = k + 1 by omega]
    simp only [if_true]
    constructor
    · rintro ⟨u, h1, h2, rfl⟩
      obtain ⟨a1, rfl, _⟩ := pub.1 h1
      exact ⟨fun j hj hj' => by have := a1 (j - 1) (by omega); rwa [show 1 + (j - 1) = j by omega] at this, h2, rfl⟩
    · rintro ⟨h1, h2, rfl⟩
      exact ⟨_, pub.2 ⟨fun j hj => h1 (1 + j) (by omega) (by omega), rfl, by omega⟩, h2, rfl⟩
  · obtain ⟨hs0, _⟩ := sg_zero hs (by omega)
    rw [hs0] at hlt hd ⊢
    obtain ⟨k, rfl⟩ : ∃ k, n = k + 1 := ⟨n - 1, by omega⟩
    rw [parse_plus f k hd, show k + 1 - 0 = k + 1 by omega]
    simp only [show ¬ (0 : Nat) = 1 by omega, if_false]
    constructor
    · rintro ⟨u, h1, h2, rfl⟩
      obtain ⟨a1, rfl, _⟩ := pub.1 h1
      exact ⟨fun j _ hj' => by have := a1 j hj'; rwa [Nat.zero_add] at this, h2, rfl⟩
    · rintro ⟨h1, h2, rfl⟩
      exact ⟨_, pub.2 ⟨fun j hj => h1 (0 + j) (by omega) (by omega), rfl, by omega⟩, h2, rfl⟩

theorem zero_toNat {c : UInt8} (h : c.toNat = 48) : c = 48 := u8_of h

theorem canon_iff {f : Nat → UInt8} {n : Nat} (h : Num f n) : Canon f n ↔ (∃ v, parseIntB 64 (txt f 0 n) = .ok v) ∧ ¬ MinusZero f n := by
  have hh := h
  obtain ⟨hlt, hd, hz⟩ := h
  constructor
  · rintro (⟨rfl, h0⟩ | ⟨_, h1, h2, h3⟩)
    · have hs : sg f 1 = 0 := by unfold sg; rw [if_neg (by rw [h0]; rintro ⟨_, h⟩; exact absurd h (by decide))]
      refine ⟨⟨_, (parse_num hh _).2 ⟨fun j hj hj' => ?_, ?_, rfl⟩⟩, fun h => by have := h.1; omega⟩
      · rw [show j = 0 by omega, h0]; exact ⟨by decide, by decide⟩
      · rw [hs, show 1 - 0 = 1 by omega, dv_one, h0]; decide
    · refine ⟨⟨_, (parse_num hh _).2 ⟨h2, h3, rfl⟩⟩, ?_⟩
      rintro ⟨rfl, e0, e1⟩
      have hs : sg f 2 = 1 := by unfold sg; rw [if_pos ⟨by omega, e0⟩]
      rw [hs, e1] at h1
      exact absurd h1 (by decide)
  · rintro ⟨⟨v, hv⟩, hm⟩
    obtain ⟨h1, h2, _⟩ := (parse_num hh v).1 hv
    by_cases h48 : (f (sg f n)).toNat = 48
    · have e48 := zero_toNat h48
      rcases hz e48 with hn | hn
      · by_cases hs : sg f n = 1
        · exfalso
          apply hm
          rw [hs] at hn e48
          exact ⟨by omega, (sg_one hs).2, e48⟩
        · obtain ⟨hs0, _⟩ := sg_zero hs (by omega)
          rw [hs0] at hn e48
          exact .inl ⟨by omega, e48⟩
      · by_cases hn' : sg f n + 1 < n
        · exact absurd (h1 _ (by omega) hn') hn
        · have hn2 : sg f n + 1 = n := by omega
          by_cases hs : sg f n = 1
          · exfalso
            apply hm
            rw [hs] at hn2 e48
            exact ⟨by omega, (sg_one hs).2, e48⟩
          · obtain ⟨hs0, _⟩ := sg_zero hs (by omega)
            rw [hs0] at hn2 e48
            exact .inl ⟨by omega, e48⟩
    · unfold Dig at hd
      exact .inr ⟨hlt, by omega, h1, h2⟩

theorem itoa_canon {f : Nat → UInt8} {n : Nat} (h : Num f n) (hc : Canon f n) {v : Int} (hv : parseIntB 64 (txt f 0 n) = .ok v) : itoaL v = txt f 0 n := by
  obtain ⟨h1, h2, hv'⟩ := (parse_num h v).1 hv
  rcases hc with ⟨rfl, h0⟩ | ⟨hlt, h3, h4, h5⟩
  · have hs : sg f 1 = 0 := by unfold sg; rw [if_neg (by rw [h0]; rintro ⟨_, h⟩; exact absurd h (by decide))]
    rw [hs, show 1 - 0 = 1 by omega, dv_one, h0] at hv'
    have : v = 0 := by simpa using hv'
    rw [this]
    simp [txt, itoaL, h0]
    decide
  · have hdd : n - sg f n < 20 := by
      refine Nat.lt_of_not_le fun hle => ?_
      obtain ⟨k, hk⟩ : ∃ k, n - sg f n = 19 + k + 1 := ⟨n - sg f n - 20, by omega⟩
      have hge := dv_ge (f := f) (i := sg f n) (k := 19 + k) h3
      rw [← hk] at hge
      have h19 : 10 ^ 19 ≤ 10 ^ (19 + k) := Nat.pow_le_pow_right (by omega) (by omega)
      have : (10 : Nat) ^ 19 = 10000000000000000000 := by decide
      split at h5 <;> omega
    obtain ⟨d, hd⟩ : ∃ d, n - sg f n = d + 1 := ⟨n - sg f n - 1, by omega⟩
    have hdig : ∀ j, j < d + 1 → Dig (f (sg f n + j)) := fun j hj => h4 _ (by omega) (by omega)
    have hge := dv_ge (f := f) (i := sg f n) (k := d) h3
    have hpos : 1 ≤ 10 ^ d := Nat.pow_pos (by omega)
    have key := digs_txt h3 d 20 (by omega) hdig
    rw [hd] at hv' h5
    by_cases hs : sg f n = 1
    · obtain ⟨_, h0⟩ := sg_one hs
      rw [if_pos hs] at hv'
      rw [hs] at hv' key hge hd
      unfold itoaL
      rw [if_pos (by omega), hv', Int.neg_neg, Int.toNat_natCast, key, show n = d + 1 + 1 by omega, txt_cons f 0 (d + 1), h0]
    · obtain ⟨hs0, _⟩ := sg_zero hs (by omega)
      rw [if_neg hs] at hv'
      rw [hs0] at hv' key hd
      unfold itoaL
      rw [if_neg (by omega), hv', Int.toNat_natCast, key, show n = d + 1 by omega]
end Go.Proofs.Qxb6628404aDoor
