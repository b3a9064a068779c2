/-
  NEWTON's DIVIDED DIFFERENCES, READ AT 0, ARE LAGRANGE's SUM AT 0, over GF(2^8). Plain: no Go in sight.
  A point: (x, y). 'dlt ps': the divided difference over the list ps, as the explicit sum. 'lag ps': Lagrange's sum at 0.
-/
import Derived.Test.Qxb6628248aFmtField
namespace Go.Proofs.Qxb6628248aFmt.Gf

def prodL (f : UInt8 × UInt8 → UInt8) (l : List (UInt8 × UInt8)) : UInt8 := l.foldl (fun acc q => gm acc (f q)) 1
def sumL (f : UInt8 × UInt8 → UInt8) (l : List (UInt8 × UInt8)) : UInt8 := l.foldl (fun acc q => acc ^^^ f q) 0

theorem foldl_gm (f : UInt8 × UInt8 → UInt8) (l : List (UInt8 × UInt8)) (a : UInt8) : l.foldl (fun acc q => gm acc (f q)) a = gm a (prodL f l) := by
  induction l generalizing a with
  | nil => simp [prodL, gm_one]
  | cons q l ih =>
    simp only [prodL, List.foldl_cons]
    rw [ih, ih (gm 1 (f q)), one_gm, gm_assoc]
theorem prodL_nil (f : UInt8 × UInt8 → UInt8) : prodL f [] = 1 := rfl
theorem prodL_cons (f : UInt8 × UInt8 → UInt8) (q : UInt8 × UInt8) (l : List (UInt8 × UInt8)) : prodL f (q :: l) = gm (f q) (prodL f l) := by
  conv => lhs; simp only [prodL, List.foldl_cons]
  rw [foldl_gm, one_gm]
theorem prodL_snoc (f : UInt8 × UInt8 → UInt8) (q : UInt8 × UInt8) (l : List (UInt8 × UInt8)) : prodL f (l ++ [q]) = gm (prodL f l) (f q) := by
  simp [prodL, List.foldl_append]
theorem foldl_xor (f : UInt8 × UInt8 → UInt8) (l : List (UInt8 × UInt8)) (a : UInt8) : l.foldl (fun acc q => acc ^^^ f q) a = a ^^^ sumL f l := by
  induction l generalizing a with
  | nil => simp [sumL]
  | cons q l ih =>
    simp only [sumL, List.foldl_cons]
    rw [ih, ih (0 ^^^ f q), UInt8.zero_xor, UInt8.xor_assoc]
theorem sumL_nil (f : UInt8 × UInt8 → UInt8) : sumL f [] = 0 := rfl
theorem sumL_cons (f : UInt8 × UInt8 → UInt8) (q : UInt8 × UInt8) (l : List (UInt8 × UInt8)) : sumL f (q :: l) = f q ^^^ sumL f l := by
  conv => lhs; simp only [sumL, List.foldl_cons]
  rw [foldl_xor, UInt8.zero_xor]
theorem sumL_snoc (f : UInt8 × UInt8 → UInt8) (q : UInt8 × UInt8) (l : List (UInt8 × UInt8)) : sumL f (l ++ [q]) = sumL f l ^^^ f q := by
  simp [sumL, List.foldl_append]
theorem sumL_congr {f g : UInt8 × UInt8 → UInt8} {l : List (UInt8 × UInt8)} (h : ∀ q, q ∈ l → f q = g q) : sumL f l = sumL g l := by
  induction l with
  | nil => rfl
  | cons q l ih => rw [sumL_cons, sumL_cons, h q List.mem_cons_self, ih fun p hp => h p (List.mem_cons_of_mem _ hp)]
theorem sumL_xor (f g : UInt8 × UInt8 → UInt8) (l : List (UInt8 × UInt8)) : sumL f l ^^^ sumL g l = sumL (fun q => f q ^^^ g q) l := by
  induction l with
  | nil => simp [sumL]
  | cons q l ih => rw [sumL_cons, sumL_cons, sumL_cons, ← ih, xor_mid]
theorem sumL_gm (f : UInt8 × UInt8 → UInt8) (l : List (UInt8 × UInt8)) (c : UInt8) : gm (sumL f l) c = sumL (fun q => gm (f q) c) l := by
  induction l with
  | nil => rw [sumL_nil, sumL_nil, zero_gm]
  | cons q l ih => rw [sumL_cons, sumL_cons, xor_gm, ih]

/-- The weight's factor: 1/(x' + x), 1 at x' = x. -/
def hF (x : UInt8) (q : UInt8 × UInt8) : UInt8 := if q.1 = x then 1 else gi (q.1 ^^^ x)
/-- Lagrange's factor at 0: x'/(x' + x), 1 at x' = x. -/
def bF (x : UInt8) (q : UInt8 × UInt8) : UInt8 := if q.1 = x then 1 else gm q.1 (gi (q.1 ^^^ x))
def dltOn (qs ps : List (UInt8 × UInt8)) : UInt8 := sumL (fun p => gm p.2 (prodL (hF p.1) ps)) qs
def dlt (ps : List (UInt8 × UInt8)) : UInt8 := dltOn ps ps
def lag (ps : List (UInt8 × UInt8)) : UInt8 := sumL (fun p => gm (prodL (bF p.1) ps) p.2) ps
def xsP (ps : List (UInt8 × UInt8)) : UInt8 := prodL (fun q => q.1) ps

theorem xor_ne {a b : UInt8} (h : a ≠ b) : a ^^^ b ≠ 0 := by
  intro e
  exact h (UInt8.xor_eq_zero_iff.1 e)
theorem xor_self_mid (a b c : UInt8) : (a ^^^ c) ^^^ (b ^^^ c) = a ^^^ b := by
  rw [xor_mid, UInt8.xor_self, UInt8.xor_zero]

/-- (x_a + x_b) / ((x_a + x)(x_b + x)) = 1/(x_b + x) + 1/(x_a + x). -/
theorem two_fractions (a b x : UInt8) (ha : a ≠ x) (hb : b ≠ x) : gm (a ^^^ b) (gm (gi (a ^^^ x)) (gi (b ^^^ x))) = gi (b ^^^ x) ^^^ gi (a ^^^ x) := by
  rw [← xor_self_mid a b x, xor_gm, ← gm_assoc, gm_gi _ (xor_ne ha), one_gm, gm_left_comm, gm_gi _ (xor_ne hb), gm_one]

theorem dlt_step (a b : UInt8 × UInt8) (ms : List (UInt8 × UInt8)) (ha : ∀ m, m ∈ ms → a.1 ≠ m.1) (hb : ∀ m, m ∈ ms → b.1 ≠ m.1) (hab : a.1 ≠ b.1) :
    gm (dlt (ms ++ [b]) ^^^ dlt (a :: ms)) (gi (b.1 ^^^ a.1)) = dlt (a :: (ms ++ [b])) := by
  have hab' : gm (b.1 ^^^ a.1) (gi (b.1 ^^^ a.1)) = 1 := gm_gi _ (xor_ne (Ne.symm hab))
  have key : dlt (ms ++ [b]) ^^^ dlt (a :: ms) = gm (dlt (a :: (ms ++ [b]))) (b.1 ^^^ a.1) := by
    unfold dlt dltOn
    rw [sumL_snoc, sumL_cons, sumL_cons, sumL_snoc, xor_gm, xor_gm]
    have e1 : gm b.2 (prodL (hF b.1) (ms ++ [b])) = gm (gm b.2 (prodL (hF b.1) (a :: (ms ++ [b])))) (b.1 ^^^ a.1) := by
      rw [prodL_cons]
      have : hF b.1 a = gi (b.1 ^^^ a.1) := by rw [hF, if_neg hab, UInt8.xor_comm]
      rw [this, gm_left_comm b.2, gm_assoc, gm_comm (gm b.2 _) (b.1 ^^^ a.1), ← gm_assoc, gm_comm (gi _), hab', one_gm]
    have e2 : gm a.2 (prodL (hF a.1) (a :: ms)) = gm (gm a.2 (prodL (hF a.1) (a :: (ms ++ [b])))) (b.1 ^^^ a.1) := by
      rw [prodL_cons, prodL_cons, prodL_snoc]
      have : hF a.1 b = gi (b.1 ^^^ a.1) := by rw [hF, if_neg (Ne.symm hab)]
      rw [this, gm_assoc a.2, gm_assoc (hF a.1 a), gm_assoc (prodL (hF a.1) ms), gm_comm (gi (b.1 ^^^ a.1)), hab', gm_one]
    have e3 : sumL (fun p => gm p.2 (prodL (hF p.1) (ms ++ [b]))) ms ^^^ sumL (fun p => gm p.2 (prodL (hF p.1) (a :: ms))) ms = gm (sumL (fun p => gm p.2 (prodL (hF p.1) (a :: (ms ++ [b])))) ms) (b.1 ^^^ a.1) := by
      rw [sumL_xor, sumL_gm]
      refine sumL_congr fun q hq => ?_
      rw [prodL_snoc, prodL_cons, prodL_cons, prodL_snoc]
      have f1 : hF q.1 a = gi (a.1 ^^^ q.1) := by rw [hF, if_neg (ha q hq)]
      have f2 : hF q.1 b = gi (b.1 ^^^ q.1) := by rw [hF, if_neg (hb q hq)]
      rw [f1, f2]
      generalize prodL (hF q.1) ms = P
      rw [← gm_xor, gm_comm (gi (a.1 ^^^ q.1)) P, ← gm_xor, gm_assoc q.2]
      congr 1
      rw [← two_fractions a.1 b.1 q.1 (ha q hq) (hb q hq)]
      rw [UInt8.xor_comm b.1 a.1, gm_left_comm (gi (a.1 ^^^ q.1)) P, gm_assoc P, gm_comm _ (a.1 ^^^ b.1)]
    rw [e1, e2, ← e3]
    generalize gm (gm a.2 (prodL (hF a.1) (a :: (ms ++ [b])))) (b.1 ^^^ a.1) = A
    generalize gm (gm b.2 (prodL (hF b.1) (a :: (ms ++ [b])))) (b.1 ^^^ a.1) = B
    generalize sumL (fun p => gm p.2 (prodL (hF p.1) (ms ++ [b]))) ms = S
    generalize sumL (fun p => gm p.2 (prodL (hF p.1) (a :: ms))) ms = T
    rw [UInt8.xor_comm A T, xor_mid S B T A, UInt8.xor_comm B A, ← UInt8.xor_assoc, UInt8.xor_comm (S ^^^ T) A, UInt8.xor_assoc]
  rw [key, gm_assoc, hab', gm_one]

/-- The product of the weights times that of the x's: Lagrange's product, the x itself once more where it is among them. -/
theorem weights_notin (x : UInt8) (ps : List (UInt8 × UInt8)) (h : ∀ p, p ∈ ps → p.1 ≠ x) : gm (prodL (hF x) ps) (xsP ps) = prodL (bF x) ps := by
  induction ps with
  | nil => exact gm_one 1
  | cons q l ih =>
    unfold xsP at ih ⊢
    have hq := h q List.mem_cons_self
    rw [prodL_cons, prodL_cons, prodL_cons, ← ih fun p hp => h p (List.mem_cons_of_mem _ hp), hF, bF, if_neg hq, if_neg hq]
    rw [gm_assoc, gm_left_comm (prodL (hF x) l), ← gm_assoc, gm_comm (gi _) q.1]
theorem weights_in (x : UInt8) (ps : List (UInt8 × UInt8)) (hd : ps.Pairwise fun p q => p.1 ≠ q.1) (h : ∃ p, p ∈ ps ∧ p.1 = x) : gm (prodL (hF x) ps) (xsP ps) = gm (prodL (bF x) ps) x := by
  induction ps with
  | nil => obtain ⟨p, hp, _⟩ := h; cases hp
  | cons q l ih =>
    rw [List.pairwise_cons] at hd
    unfold xsP at ih ⊢
    rw [prodL_cons, prodL_cons, prodL_cons]
    by_cases hq : q.1 = x
    · have hn : ∀ p, p ∈ l → p.1 ≠ x := fun p hp e => hd.1 p hp (hq.trans e.symm)
      have := weights_notin x l hn
      unfold xsP at this
      rw [← this, hF, bF, if_pos hq, if_pos hq, one_gm, one_gm, hq, gm_assoc, gm_comm x]
    · have hl : ∃ p, p ∈ l ∧ p.1 = x := by
        obtain ⟨p, hp, e⟩ := h
        rcases List.mem_cons.1 hp with rfl | hp'
        · exact absurd e hq
        · exact ⟨p, hp', e⟩
      have e := ih hd.2 hl
      rw [hF, bF, if_neg hq, if_neg hq, gm_assoc, gm_left_comm (prodL (hF x) l), e, ← gm_assoc, ← gm_assoc, gm_comm (gi _) q.1]

theorem lag_step (b : UInt8 × UInt8) (ps : List (UInt8 × UInt8)) (hd : ps.Pairwise fun p q => p.1 ≠ q.1) (hb : ∀ p, p ∈ ps → p.1 ≠ b.1) :
    lag (ps ++ [b]) = lag ps ^^^ gm (dlt (ps ++ [b])) (xsP ps) := by
  unfold lag dlt dltOn
  rw [sumL_snoc, sumL_snoc, xor_gm, ← UInt8.xor_assoc, sumL_gm, sumL_xor]
  congr 1
  · refine sumL_congr fun q hq => ?_
    have hqb : b.1 ≠ q.1 := fun e => hb q hq e.symm
    have w := weights_in q.1 ps hd ⟨q, hq, rfl⟩
    rw [prodL_snoc, prodL_snoc]
    have f1 : bF q.1 b = gm b.1 (gi (b.1 ^^^ q.1)) := by rw [bF, if_neg hqb]
    have f2 : hF q.1 b = gi (b.1 ^^^ q.1) := by rw [hF, if_neg hqb]
    rw [f1, f2]
    have e : gm (gm q.2 (gm (prodL (hF q.1) ps) (gi (b.1 ^^^ q.1)))) (xsP ps) = gm (gm (prodL (bF q.1) ps) (gm q.1 (gi (b.1 ^^^ q.1)))) q.2 := by
      rw [gm_assoc, gm_assoc, gm_comm (gi _) (xsP ps), ← gm_assoc (prodL (hF q.1) ps), w, gm_assoc, gm_comm q.2]
    have g : gm (b.1 ^^^ q.1) (gi (b.1 ^^^ q.1)) = 1 := gm_gi _ (xor_ne hqb)
    have k : gm (prodL (bF q.1) ps) (gm b.1 (gi (b.1 ^^^ q.1))) = prodL (bF q.1) ps ^^^ gm (prodL (bF q.1) ps) (gm q.1 (gi (b.1 ^^^ q.1))) := by
      rw [xor_gm] at g
      conv => rhs; arg 1; rw [← gm_one (prodL (bF q.1) ps), ← g]
      rw [← gm_xor, UInt8.xor_assoc, UInt8.xor_self, UInt8.xor_zero]
    rw [e, ← xor_gm, k]
  · have w := weights_notin b.1 ps hb
    rw [prodL_snoc, prodL_snoc, hF, bF, if_pos rfl, if_pos rfl, gm_one, gm_one, gm_assoc, w, gm_comm]

/-! ### By indices: the points p 0 .. p (n-1) -/
/-- The points i-k .. i, as a list: k + 1 of them, from lo = i - k on. -/
def seg (p : Nat → UInt8 × UInt8) (lo k : Nat) : List (UInt8 × UInt8) := (List.range' lo k).map p
/-- The divided difference as the loop reckons it: over the points i - k .. i. -/
def dd (p : Nat → UInt8 × UInt8) : Nat → Nat → UInt8
  | 0, i => (p i).2
  | k + 1, i => gm (dd p k i ^^^ dd p k (i - 1)) (gi ((p i).1 ^^^ (p (i - (k + 1))).1))

def Distinct (p : Nat → UInt8 × UInt8) (n : Nat) : Prop := ∀ i j, i < n → j < n → i ≠ j → (p i).1 ≠ (p j).1

theorem dd_dlt (p : Nat → UInt8 × UInt8) (n : Nat) (hd : Distinct p n) (k i : Nat) (hk : k ≤ i) (hi : i < n) : dd p k i = dlt (seg p (i - k) (k + 1)) := by
  induction k generalizing i with
  | zero => simp [dd, seg, dlt, dltOn, sumL, prodL, hF, one_gm, gm_one, List.range']
  | succ k ih =>
    rw [dd, ih i (by omega) hi, ih (i - 1) (by omega) (by omega)]
    have e1 : seg p (i - k) (k + 1) = seg p (i - k) k ++ [p i] := by
      unfold seg
      rw [List.range'_concat, List.map_append]
      simp [show i - k + k = i from by omega]
    have e2 : seg p (i - 1 - k) (k + 1) = p (i - (k + 1)) :: seg p (i - k) k := by
      unfold seg
      rw [List.range'_succ, List.map_cons, show i - 1 - k = i - (k + 1) from by omega, show i - (k + 1) + 1 = i - k from by omega]
    have e3 : seg p (i - (k + 1)) (k + 1 + 1) = p (i - (k + 1)) :: (seg p (i - k) k ++ [p i]) := by
      rw [← e1]
      unfold seg
      rw [List.range'_succ, List.map_cons, show i - (k + 1) + 1 = i - k from by omega]
    rw [e1, e2, e3]
    refine dlt_step _ _ _ ?_ ?_ ?_
    · intro m hm
      unfold seg at hm
      obtain ⟨t, ht, rfl⟩ := List.mem_map.1 hm
      rw [List.mem_range'_1] at ht
      exact hd _ _ (by omega) (by omega) (by omega)
    · intro m hm
      unfold seg at hm
      obtain ⟨t, ht, rfl⟩ := List.mem_map.1 hm
      rw [List.mem_range'_1] at ht
      exact hd _ _ (by omega) (by omega) (by omega)
    · exact hd _ _ (by omega) (by omega) (by omega)

/-- Horner's rule from the top down: after t steps below n - 1. -/
def horner (p : Nat → UInt8 × UInt8) (n : Nat) : Nat → UInt8
  | 0 => dd p (n - 1) (n - 1)
  | t + 1 => dd p (n - 2 - t) (n - 2 - t) ^^^ gm (horner p n t) (p (n - 2 - t)).1

theorem seg_snoc (p : Nat → UInt8 × UInt8) (k : Nat) : seg p 0 (k + 1) = seg p 0 k ++ [p k] := by
  unfold seg
  rw [List.range'_concat, List.map_append]
  simp
theorem lag_grow (p : Nat → UInt8 × UInt8) (n : Nat) (hd : Distinct p n) (k : Nat) (hk : k < n) : lag (seg p 0 (k + 1)) = lag (seg p 0 k) ^^^ gm (dd p k k) (xsP (seg p 0 k)) := by
  rw [dd_dlt p n hd k k (Nat.le_refl _) hk, Nat.sub_self, seg_snoc]
  refine lag_step _ _ ?_ ?_
  · unfold seg
    rw [List.pairwise_map]
    refine List.Pairwise.imp_of_mem ?_ (List.pairwise_lt_range' (s := 0) (n := k))
    intro a b ha hb hlt
    rw [List.mem_range'_1] at ha hb
    exact hd a b (by omega) (by omega) (by omega)
  · intro q hq
    unfold seg at hq
    obtain ⟨t, ht, rfl⟩ := List.mem_map.1 hq
    rw [List.mem_range'_1] at ht
    exact hd _ _ (by omega) (by omega) (by omega)
theorem horner_inv (p : Nat → UInt8 × UInt8) (n : Nat) (hd : Distinct p n) (t : Nat) (ht : t < n) :
    lag (seg p 0 (n - 1 - t)) ^^^ gm (horner p n t) (xsP (seg p 0 (n - 1 - t))) = lag (seg p 0 n) := by
  induction t with
  | zero =>
    have := lag_grow p n hd (n - 1) (by omega)
    rw [show n - 1 + 1 = n from by omega] at this
    rw [this]; rfl
  | succ t ih =>
    rw [← ih (by omega)]
    have g := lag_grow p n hd (n - 2 - t) (by omega)
    rw [show n - 2 - t + 1 = n - 1 - t from by omega] at g
    rw [show n - 1 - (t + 1) = n - 2 - t from by omega, g, horner, UInt8.xor_assoc]
    congr 1
    have e : xsP (seg p 0 (n - 1 - t)) = gm (xsP (seg p 0 (n - 2 - t))) (p (n - 2 - t)).1 := by
      rw [show n - 1 - t = n - 2 - t + 1 from by omega, seg_snoc, xsP, prodL_snoc]; rfl
    rw [e, xor_gm, gm_assoc, gm_comm (p (n - 2 - t)).1]
/-- ████ NEWTON IS LAGRANGE ████ -/
theorem newton_is_lagrange (p : Nat → UInt8 × UInt8) (n : Nat) (hn : 1 ≤ n) (hd : Distinct p n) : horner p n (n - 1) = lag (seg p 0 n) := by
  have := horner_inv p n hd (n - 1) (by omega)
  rw [show n - 1 - (n - 1) = 0 from by omega] at this
  rw [← this]
  simp [seg, lag, sumL, xsP, prodL, gm_one]

end Go.Proofs.Qxb6628248aFmt.Gf
