/-
  WHAT THE LAW's SECOND LOOP GATHERS, plain: no Go in sight.
-/
import Derived.Test.Qxb6628248aFmtKeys
namespace Go.Proofs.Qxb6628248aFmt

/-- What the second loop gathers over the keys 1 .. x: the keys that are there; the last length (-1: none yet); were all alike? -/
def st (has : Int → Bool) (ln : Int → Nat) : Nat → List Nat × Int × Bool
  | 0 => ([], -1, true)
  | x + 1 => if has ((x + 1 : Nat) : Int) then ((st has ln x).1 ++ [x + 1], (ln ((x + 1 : Nat) : Int) : Int), if 0 ≤ (st has ln x).2.1 ∧ (ln ((x + 1 : Nat) : Int) : Int) ≠ (st has ln x).2.1 then false else (st has ln x).2.2) else st has ln x
theorem st_len (has : Int → Bool) (ln : Int → Nat) (k : Nat) : (st has ln k).1.length ≤ k := by
  induction k with
  | zero => exact Nat.le_refl _
  | succ k ih =>
    rw [st]
    split
    · simp; exact ih
    · exact Nat.le_succ_of_le ih
theorem st_sz (has : Int → Bool) (ln : Int → Nat) (hb : ∀ x, ln x ≤ 4611686018427387904) (k : Nat) : -1 ≤ (st has ln k).2.1 ∧ (st has ln k).2.1 ≤ 4611686018427387904 := by
  induction k with
  | zero => simp [st]
  | succ k ih =>
    rw [st]
    split
    · have := hb ((k + 1 : Nat) : Int)
      show -1 ≤ (ln ((k + 1 : Nat) : Int) : Int) ∧ (ln ((k + 1 : Nat) : Int) : Int) ≤ 4611686018427387904
      omega
    · exact ih
theorem st_filter (has : Int → Bool) (ln : Int → Nat) (k : Nat) : (st has ln k).1 = (List.range' 1 k).filter fun x : Nat => has (x : Int) := by
  induction k with
  | zero => rfl
  | succ k ih =>
    rw [st, List.range'_concat, List.filter_append, ← ih]
    have e : 1 + 1 * k = k + 1 := by omega
    rw [e]
    by_cases h : has ((k + 1 : Nat) : Int) = true
    · rw [if_pos h, List.filter_cons_of_pos (by simpa using h)]; rfl
    · rw [if_neg h, List.filter_cons_of_neg (by simpa using h)]; simp
theorem st_mem (has : Int → Bool) (ln : Int → Nat) (k y : Nat) : y ∈ (st has ln k).1 ↔ (1 ≤ y ∧ y ≤ k) ∧ has (y : Int) = true := by
  rw [st_filter, List.mem_filter, List.mem_range'_1]
  constructor
  · rintro ⟨h1, h2⟩; exact ⟨by omega, h2⟩
  · rintro ⟨h1, h2⟩; exact ⟨by omega, h2⟩
theorem st_sorted (has : Int → Bool) (ln : Int → Nat) (k : Nat) : (st has ln k).1.Pairwise (· < ·) := by
  rw [st_filter]
  exact List.Pairwise.filter _ List.pairwise_lt_range'
/-- The last length: -1 just where there is no key; else a key has it; where all were alike every key has it; where not, two keys part. -/
theorem st_lens (has : Int → Bool) (ln : Int → Nat) (k : Nat) :
    ((st has ln k).1 = [] → (st has ln k).2.1 = -1 ∧ (st has ln k).2.2 = true) ∧ ((st has ln k).1 ≠ [] → ∃ y ∈ (st has ln k).1, (st has ln k).2.1 = (ln (y : Nat) : Int)) ∧
    ((st has ln k).2.2 = true → ∀ y ∈ (st has ln k).1, (ln (y : Nat) : Int) = (st has ln k).2.1) ∧ ((st has ln k).2.2 = false → ∃ y ∈ (st has ln k).1, ∃ z ∈ (st has ln k).1, ln (y : Nat) ≠ ln (z : Nat)) := by
  induction k with
  | zero => simp [st]
  | succ k ih =>
    obtain ⟨i1, i2, i3, i4⟩ := ih
    rw [st]
    by_cases h : has ((k + 1 : Nat) : Int) = true
    · rw [if_pos h]
      refine ⟨fun e => by simp at e, fun _ => ⟨k + 1, by simp, rfl⟩, ?_, ?_⟩
      · intro hs y hy
        simp only at hs
        by_cases hc : 0 ≤ (st has ln k).2.1 ∧ (ln ((k + 1 : Nat) : Int) : Int) ≠ (st has ln k).2.1
        · rw [if_pos hc] at hs; cases hs
        · rw [if_neg hc] at hs
          rcases List.mem_append.1 hy with hy | hy
          · have h1 := i3 hs y hy
            show (ln (y : Nat) : Int) = (ln ((k + 1 : Nat) : Int) : Int)
            have : 0 ≤ (st has ln k).2.1 := by omega
            omega
          · simp at hy; subst hy; rfl
      · intro hs
        simp only at hs
        by_cases hc : 0 ≤ (st has ln k).2.1 ∧ (ln ((k + 1 : Nat) : Int) : Int) ≠ (st has ln k).2.1
        · by_cases hne : (st has ln k).1 = []
          · have := (i1 hne).1; omega
          · obtain ⟨y, hy, e⟩ := i2 hne
            refine ⟨y, List.mem_append_left _ hy, k + 1, by simp, fun e2 => hc.2 ?_⟩
            rw [e, e2]
        · rw [if_neg hc] at hs
          obtain ⟨y, hy, z, hz, hne⟩ := i4 hs
          exact ⟨y, List.mem_append_left _ hy, z, List.mem_append_left _ hz, hne⟩
    · rw [if_neg h]
      exact ⟨i1, i2, i3, i4⟩
end Go.Proofs.Qxb6628248aFmt
