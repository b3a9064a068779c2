/-
  GF(2^8) modulo x^8+x^4+x^3+x+1 on UInt8, plain: no Go in sight. The shift-and-reduce product 'gm', the generator's powers 'gp', the field laws.
-/
namespace Go.Proofs.Qxb6628248aFmt.Gf

/-- a times x. -/
def xt (a : UInt8) : UInt8 := if a < 128 then a + a else (a + a) ^^^ 27
/-- a times the generator 3. -/
def tr (a : UInt8) : UInt8 := a ^^^ xt a

/-- The rounds of the shift-and-reduce product. -/
def gmAux : Nat → UInt8 → UInt8 → UInt8 → UInt8
  | 0, p, _, _ => p
  | n + 1, p, a, b => gmAux n (if b % 2 = 1 then p ^^^ a else p) (xt a) (b / 2)
def gm (a b : UInt8) : UInt8 := gmAux 8 0 a b

/-- The powers of the generator. -/
def gp : Nat → UInt8
  | 0 => 1
  | n + 1 => tr (gp n)

/-- The rounds of the inverse's square-and-multiply. -/
def giAux : Nat → UInt8 → UInt8 → UInt8
  | 0, r, _ => r
  | n + 1, r, p => giAux n (gm r (gm p p)) (gm p p)
def gi (a : UInt8) : UInt8 := giAux 7 1 a

def allB (f : UInt8 → Bool) : Bool := (List.range 256).all fun n => f (UInt8.ofNat n)
theorem allB_spec {f : UInt8 → Bool} (h : allB f = true) (a : UInt8) : f a = true := by
  have h1 := List.all_eq_true.1 h a.toNat (List.mem_range.2 a.toNat_lt)
  simpa using h1

theorem xt_xor (a b : UInt8) : xt (a ^^^ b) = xt a ^^^ xt b := by
  have h : allB (fun a => allB fun b => xt (a ^^^ b) == xt a ^^^ xt b) = true := by decide +kernel
  have := allB_spec (allB_spec h a) b
  simpa using this
theorem tr_xt (a : UInt8) : tr (xt a) = xt (tr a) := by
  unfold tr; rw [xt_xor]
theorem xor_mid (a b c d : UInt8) : (a ^^^ b) ^^^ (c ^^^ d) = (a ^^^ c) ^^^ (b ^^^ d) := by
  rw [UInt8.xor_assoc, ← UInt8.xor_assoc b c d, UInt8.xor_comm b c, UInt8.xor_assoc c b d, ← UInt8.xor_assoc]
theorem tr_xor (a b : UInt8) : tr (a ^^^ b) = tr a ^^^ tr b := by
  unfold tr; rw [xt_xor, xor_mid]
theorem gmAux_tr (n : Nat) (p a b : UInt8) : gmAux n (tr p) (tr a) b = tr (gmAux n p a b) := by
  induction n generalizing p a b with
  | zero => rfl
  | succ n ih =>
    simp only [gmAux]
    rw [← tr_xt]
    split
    · rw [← tr_xor, ih]
    · rw [ih]
theorem tr_zero : tr 0 = 0 := by decide +kernel
theorem gm_tr (a b : UInt8) : gm (tr a) b = tr (gm a b) := by
  unfold gm
  have := gmAux_tr 8 0 a b
  rwa [tr_zero] at this
theorem one_gm (a : UInt8) : gm 1 a = a := by
  have h : allB (fun a => gm 1 a == a) = true := by decide +kernel
  simpa using allB_spec h a
theorem zero_gm (a : UInt8) : gm 0 a = 0 := by
  have h : allB (fun a => gm 0 a == 0) = true := by decide +kernel
  simpa using allB_spec h a
/-- Iterating 'tr'. -/
def trN : Nat → UInt8 → UInt8
  | 0, a => a
  | n + 1, a => tr (trN n a)
theorem gp_gm (n : Nat) (b : UInt8) : gm (gp n) b = trN n b := by
  induction n with
  | zero => exact one_gm b
  | succ n ih => simp only [gp, trN]; rw [gm_tr, ih]
theorem trN_xor (n : Nat) (a b : UInt8) : trN n (a ^^^ b) = trN n a ^^^ trN n b := by
  induction n with
  | zero => rfl
  | succ n ih => simp only [trN]; rw [ih, tr_xor]
theorem trN_zero (n : Nat) : trN n 0 = 0 := by
  induction n with
  | zero => rfl
  | succ n ih => simp only [trN]; rw [ih, tr_zero]
theorem trN_gp (m n : Nat) : trN m (gp n) = gp (m + n) := by
  induction m with
  | zero => rw [Nat.zero_add]; rfl
  | succ m ih => simp only [trN]; rw [ih, Nat.add_right_comm]; rfl
theorem gp_mul (m n : Nat) : gm (gp m) (gp n) = gp (m + n) := by
  rw [gp_gm, trN_gp]

/-- The table of logarithms: the first i below 255 with gp i = a (0 at a = 0). -/
def lgFind : Nat → Nat → UInt8 → UInt8 → Nat
  | 0, _, _, _ => 0
  | n + 1, i, x, a => if x = a then i else lgFind n (i + 1) (tr x) a
def lg (a : UInt8) : Nat := if a = 0 then 0 else lgFind 255 0 1 a

theorem lg_spec (a : UInt8) : a = 0 ∨ (gp (lg a) = a ∧ lg a < 255) := by
  have h : allB (fun a => a == 0 || (gp (lg a) == a && decide (lg a < 255))) = true := by decide +kernel
  have := allB_spec h a
  simpa using this
theorem gp_255 : gp 255 = 1 := by decide +kernel
theorem gp_add_255 (n : Nat) : gp (n + 255) = gp n := by
  rw [← gp_mul, gp_255, gp_gm, ← Nat.add_zero n, ← trN_gp]; rfl
theorem gp_lg (a : UInt8) (h : a ≠ 0) : gp (lg a) = a := by
  rcases lg_spec a with h' | h'
  · exact absurd h' h
  · exact h'.1
theorem lg_lt (a : UInt8) : lg a < 255 := by
  rcases lg_spec a with h' | h'
  · subst h'; decide
  · exact h'.2
theorem gm_zero (a : UInt8) : gm a 0 = 0 := by
  by_cases h : a = 0
  · subst h; exact zero_gm 0
  · rw [← gp_lg a h, gp_gm, trN_zero]
theorem gm_comm (a b : UInt8) : gm a b = gm b a := by
  by_cases h : a = 0
  · subst h; rw [zero_gm, gm_zero]
  by_cases k : b = 0
  · subst k; rw [zero_gm, gm_zero]
  rw [← gp_lg a h, ← gp_lg b k, gp_mul, gp_mul, Nat.add_comm]
theorem gm_assoc (a b c : UInt8) : gm (gm a b) c = gm a (gm b c) := by
  by_cases h : a = 0
  · subst h; rw [zero_gm, zero_gm, zero_gm]
  by_cases k : b = 0
  · subst k; rw [gm_zero, zero_gm, gm_zero]
  by_cases l : c = 0
  · subst l; rw [gm_zero, gm_zero, gm_zero]
  rw [← gp_lg a h, ← gp_lg b k, ← gp_lg c l, gp_mul, gp_mul, gp_mul, gp_mul, Nat.add_assoc]
theorem gm_left_comm (a b c : UInt8) : gm a (gm b c) = gm b (gm a c) := by
  rw [← gm_assoc, gm_comm a b, gm_assoc]
theorem gm_xor (a b c : UInt8) : gm a (b ^^^ c) = gm a b ^^^ gm a c := by
  by_cases h : a = 0
  · subst h; simp [zero_gm]
  · rw [← gp_lg a h, gp_gm, gp_gm, gp_gm, trN_xor]
theorem xor_gm (a b c : UInt8) : gm (a ^^^ b) c = gm a c ^^^ gm b c := by
  rw [gm_comm, gm_xor, gm_comm c a, gm_comm c b]
theorem gm_one (a : UInt8) : gm a 1 = a := by rw [gm_comm, one_gm]
theorem gm_gi (a : UInt8) (h : a ≠ 0) : gm a (gi a) = 1 := by
  have hh : allB (fun a => a == 0 || gm a (gi a) == 1) = true := by decide +kernel
  have := allB_spec hh a
  simp only [Bool.or_eq_true, beq_iff_eq] at this
  rcases this with h' | h'
  · exact absurd h' h
  · exact h'
theorem gi_lg (a : UInt8) (h : a ≠ 0) : gi a = gp (255 - lg a) := by
  have e : gm a (gp (255 - lg a)) = 1 := by
    rw [← gp_lg a h, gp_lg a h]
    conv => lhs; arg 1; rw [← gp_lg a h]
    rw [gp_mul]
    have := lg_lt a
    rw [show lg a + (255 - lg a) = 255 from by omega, gp_255]
  have e2 : gm (gi a) (gm a (gp (255 - lg a))) = gi a := by rw [e, gm_one]
  rw [← e2, ← gm_assoc, gm_comm (gi a) a, gm_gi a h, one_gm]
/-- The table's product. -/
theorem gm_table (a b : UInt8) (h : a ≠ 0) (k : b ≠ 0) : gm a b = gp (lg a + lg b) := by
  conv => lhs; rw [← gp_lg a h, ← gp_lg b k]
  rw [gp_mul]
/-- The table's quotient. -/
theorem gm_gi_table (a b : UInt8) (h : a ≠ 0) (k : b ≠ 0) : gm a (gi b) = gp (lg a + 255 - lg b) := by
  rw [gi_lg b k]
  conv => lhs; arg 1; rw [← gp_lg a h]
  rw [gp_mul]
  have := lg_lt b
  rw [show lg a + (255 - lg b) = lg a + 255 - lg b from by omega]
/-- The generator's powers below 255 are told apart by 'lg'. -/
theorem lg_gp (i : Nat) (h : i < 255) : lg (gp i) = i := by
  have hh : ((List.range 255).all fun i => lg (gp i) == i) = true := by decide +kernel
  have := List.all_eq_true.1 hh i (List.mem_range.2 h)
  simpa using this
theorem gp_ne (i : Nat) : gp i ≠ 0 := by
  intro h
  have e : gm (gp i) (gp (255 * i + 255 - i)) = 1 := by
    rw [gp_mul]
    have : i + (255 * i + 255 - i) = 255 * i + 255 := by omega
    rw [this]
    clear h this
    induction i with
    | zero => exact gp_255
    | succ i ih => rw [gp_add_255] at ih ⊢; rw [show 255 * (i + 1) = 255 * i + 255 from by omega, gp_add_255, ih]
  rw [h, zero_gm] at e
  exact absurd e (by decide)

end Go.Proofs.Qxb6628248aFmt.Gf
