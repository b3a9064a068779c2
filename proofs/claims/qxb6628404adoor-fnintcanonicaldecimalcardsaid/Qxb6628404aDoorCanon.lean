/-
  zzIsCanonInt64 (11).
-/
import Derived.Test.Qxb6628404aDoorLeaf
import Derived.BigCall
import Derived.BigGuard
namespace Go.Proofs.Qxb6628404aDoor
open Go.RowKit Go.Lib

theorem beq8 {c : UInt8} {k : Nat} (h : c.toNat = k) : ((c.toNat : Int) == (k : Int)) = true := by simp [h]
theorem bne8 {c : UInt8} {k : Nat} (h : c.toNat ≠ k) : ((c.toNat : Int) == (k : Int)) = false := by rw [beq_eq_false_iff_ne]; omega
theorem ne_of8 {c d : UInt8} (h : c.toNat ≠ d.toNat) : c ≠ d := fun e => h (by rw [e])

/-- The bound's digits. -/
def top7 : ByteArray := ⟨#[57, 50, 50, 51, 51, 55, 50, 48, 51, 54, 56, 53, 52, 55, 55, 53, 56, 48, 55]⟩
def top8 : ByteArray := ⟨#[57, 50, 50, 51, 51, 55, 50, 48, 51, 54, 56, 53, 52, 55, 55, 53, 56, 48, 56]⟩

theorem top7_at (j : Nat) (hj : j < 19) (w : World) : (Instr.index 9 (.string ⟨#[57, 50, 50, 51, 51, 55, 50, 48, 51, 54, 56, 53, 52, 55, 55, 53, 56, 48, 55]⟩) (.int .i64 (j : Int))).run Tryd.prog w = .ok (.int .u8 ((top7.data.getD j 0).toNat : Int)) w := by
  rw [run_index_string w 9 _ .i64 _ Tryd.underlying9, dif_pos ⟨by omega, by show (j : Int) < 19; omega⟩]
  have : ∀ j : Fin 19, (⟨#[57, 50, 50, 51, 51, 55, 50, 48, 51, 54, 56, 53, 52, 55, 55, 53, 56, 48, 55]⟩ : ByteArray)[j.val]'(j.isLt) = top7.data.getD j.val 0 := by decide +kernel
  simp only [Int.toNat_natCast]
  rw [this ⟨j, hj⟩]
theorem top8_at (j : Nat) (hj : j < 19) (w : World) : (Instr.index 9 (.string ⟨#[57, 50, 50, 51, 51, 55, 50, 48, 51, 54, 56, 53, 52, 55, 55, 53, 56, 48, 56]⟩) (.int .i64 (j : Int))).run Tryd.prog w = .ok (.int .u8 ((top8.data.getD j 0).toNat : Int)) w := by
  rw [run_index_string w 9 _ .i64 _ Tryd.underlying9, dif_pos ⟨by omega, by show (j : Int) < 19; omega⟩]
  have : ∀ j : Fin 19, (⟨#[57, 50, 50, 51, 51, 55, 50, 48, 51, 54, 56, 53, 52, 55, 55, 53, 56, 48, 56]⟩ : ByteArray)[j.val]'(j.isLt) = top8.data.getD j.val 0 := by decide +kernel
  simp only [Int.toNat_natCast]
  rw [this ⟨j, hj⟩]
theorem wrap_small {x : Int} (h0 : 0 ≤ x) (h1 : x ≤ 1000) : IntKind.i64.wrap x = x := by
  rw [IntKind.wrap_i64]; omega
theorem drew_two (w : World) (m q : Nat) : (w.drewN m).drewN q = w.drewN (m + q) := by simp [World.drewN, Nat.add_assoc]
theorem drew_ex {w wr : World} {m : Nat} (h : wr = w.drewN m) (a b : Nat) : ∃ q, (wr.drewN a).drewN b = w.drewN q := ⟨m + (a + b), by rw [h, drew_two, drew_two]⟩
theorem top7_dv : dv (fun t => top7.data.getD t 0) 0 19 = 9223372036854775807 := by decide +kernel
theorem top8_dv : dv (fun t => top8.data.getD t 0) 0 19 = 9223372036854775808 := by decide +kernel
theorem top7_dig (t : Nat) (ht : t < 19) : Dig (top7.data.getD t 0) := by
  have : ∀ j : Fin 19, 48 ≤ (top7.data.getD j.val 0).toNat ∧ (top7.data.getD j.val 0).toNat ≤ 57 := by decide +kernel
  exact this ⟨t, ht⟩
theorem top8_dig (t : Nat) (ht : t < 19) : Dig (top8.data.getD t 0) := by
  have : ∀ j : Fin 19, 48 ≤ (top8.data.getD j.val 0).toNat ∧ (top8.data.getD j.val 0).toNat ≤ 57 := by decide +kernel
  exact this ⟨t, ht⟩
theorem canon_eq {f : Nat → UInt8} {n k bnd : Nat} (T : ByteArray) (hT : dv (fun t => T.data.getD t 0) 0 19 = bnd) (hs : sg f n = k) (hb : bnd = if k = 1 then 9223372036854775808 else 9223372036854775807) (hn : n = 19 + k) (h1 : 49 ≤ (f k).toNat) (hd : ∀ t, k ≤ t → t < n → Dig (f t))
    (hpre : ∀ t, t < 19 → f (k + t) = T.data.getD t 0) : Canon f n := by
  refine .inr ?_
  rw [hs]
  refine ⟨by omega, h1, hd, ?_⟩
  rw [show n - k = 19 by omega, dv_congr (g := fun t => T.data.getD t 0) (i' := 0) (fun j hj => by rw [hpre j hj, Nat.zero_add]), hT, hb]
  exact Nat.le_refl _
theorem canon_lex {f : Nat → UInt8} {n k j bnd : Nat} (T : ByteArray) (hT : dv (fun t => T.data.getD t 0) 0 19 = bnd) (hTd : ∀ t, t < 19 → Dig (T.data.getD t 0)) (hs : sg f n = k) (hb : bnd = if k = 1 then 9223372036854775808 else 9223372036854775807) (hn : n = 19 + k) (h1 : 49 ≤ (f k).toNat) (hd : ∀ t, k ≤ t → t < n → Dig (f t))
    (hj : j < 19) (hpre : ∀ t, t < j → f (k + t) = T.data.getD t 0) (hne : f (k + j) ≠ T.data.getD j 0) : (f (k + j)).toNat < (T.data.getD j 0).toNat ↔ Canon f n := by
  have e19 : 19 = j + (1 + (18 - j)) := by omega
  constructor
  · intro hlt
    refine .inr ?_
    rw [hs]
    refine ⟨by omega, h1, hd, ?_⟩
    have := dv_lex (f := f) (g := fun t => T.data.getD t 0) (i := k) (i' := 0) (j := j) (r := 18 - j) (fun t ht => by rw [hpre t ht, Nat.zero_add]) (fun t ht => hd _ (by omega) (by omega)) (by rw [Nat.zero_add]; exact hTd j hj) (by rw [Nat.zero_add]; exact hlt)
    rw [← e19, hT, hb] at this
    rw [show n - k = 19 by omega]
    omega
  · intro hc
    refine Nat.lt_of_not_le fun hge => ?_
    have hne' : (T.data.getD j 0).toNat ≠ (f (k + j)).toNat := fun h => hne (UInt8.toNat.inj h.symm)
    have := dv_lex (f := fun t => T.data.getD t 0) (g := f) (i := 0) (i' := k) (j := j) (r := 18 - j) (fun t ht => by rw [hpre t ht, Nat.zero_add]) (fun t ht => by rw [Nat.zero_add]; exact hTd t (by omega)) (hd _ (by omega) (by omega)) (by rw [Nat.zero_add]; omega)
    rw [← e19, hT, hb] at this
    rcases hc with ⟨h2, _⟩ | ⟨_, _, _, h5⟩
    · omega
    · rw [hs, show n - k = 19 by omega] at h5
      omega
theorem canon_small {f : Nat → UInt8} {n k : Nat} (hs : sg f n = k) (hk : k < n) (h1 : 49 ≤ (f k).toNat) (hd : ∀ t, k ≤ t → t < n → Dig (f t)) (hn : n - k < 19) : Canon f n := by
  refine .inr ?_
  rw [hs]
  refine ⟨hk, h1, hd, ?_⟩
  have h2 := dv_lt (f := f) (i := k) (k := n - k) (fun j hj => hd _ (by omega) (by omega))
  have h3 : (10 : Nat) ^ (n - k) ≤ 10 ^ 18 := Nat.pow_le_pow_right (by omega) (by omega)
  have h4 : (10 : Nat) ^ 18 = 1000000000000000000 := by decide
  split <;> omega
theorem canon_large {f : Nat → UInt8} {n k : Nat} (hs : sg f n = k) (h1 : 49 ≤ (f k).toNat) (hn : 19 < n - k) : ¬ Canon f n := by
  rintro (⟨h2, _⟩ | ⟨_, _, _, h5⟩)
  · omega
  · rw [hs] at h5
    obtain ⟨d, hd⟩ : ∃ d, n - k = 19 + d + 1 := ⟨n - k - 20, by omega⟩
    have h2 := dv_ge (f := f) (i := k) (k := 19 + d) h1
    rw [← hd] at h2
    have h3 : (10 : Nat) ^ 19 ≤ 10 ^ (19 + d) := Nat.pow_le_pow_right (by omega) (by omega)
    have h4 : (10 : Nat) ^ 19 = 10000000000000000000 := by decide
    split at h5 <;> omega

set_option maxRecDepth 100000 in
set_option maxHeartbeats 2000000 in
theorem canon_any (B : Nat) (A : Option Addr) (n c : Nat) (f : Nat → UInt8) (w : World) (hS : Byt B w A n f) :
    Calls Tryd.prog 11 #[.slice A n c] w fun e w' => Says e (Canon f n) ∧ ∃ q, w' = w.drewN q := by
  have hlen := hS.len
  by_cases hn : 0 < n
  · obtain ⟨b, o, rfl, _, _⟩ := hS.cells 0 hn
    have HC : Hid (∀ j, j < n → w.cell? ⟨b, o + j, none⟩ = some (.int .u8 ((f j).toNat : Int))) := fun j hj => by
      obtain ⟨b', o', h1, _, h3⟩ := hS.cells j hj
      cases h1
      exact h3
    have hc0 : w.cell? ⟨b, o, none⟩ = some (.int .u8 ((f 0).toNat : Int)) := HC.out 0 hn
    have hn' : (0 : Int) < (n : Int) := by omega
    have hl0 := u8lt (f 0)
    clear hS
    by_cases h10 : n = 1 ∧ (f 0).toNat = 48
    · obtain ⟨rfl, h48⟩ := h10
      have e48 := beq8 h48
      have HE : Hid (f 0 = 48) := u8_of h48
      clear h48
      go_enter Tryd.func11, Tryd.ntmps11
      go_wp2
      go_ret
      exact ⟨Says.yes (.inl ⟨rfl, HE.out⟩), 0, rfl⟩
    · have HN : Hid (¬ (n = 1 ∧ f 0 = 48)) := fun h => h10 ⟨h.1, by rw [h.2]; rfl⟩
      by_cases h45 : (f 0).toNat = 45
      · have HSG : Hid (sg f n = 1) := by unfold sg; exact if_pos ⟨hn, u8_of h45⟩
        have e45 := beq8 h45
        have e48 : (((f 0).toNat : Int) == 48) = false := bne8 (k := 48) (by omega)
        clear h10 h45
        by_cases hn1 : n = 1
        · subst hn1
          go_enter Tryd.func11, Tryd.ntmps11
          go_wp2
          go_ret
          refine ⟨Says.no (fun h => ?_), 0, rfl⟩
          rcases h with ⟨h1, h2⟩ | ⟨h1, _⟩
          · exact HN.out ⟨trivial, h2⟩
          · rw [HSG.out] at h1; omega
        have hn1' : ((n : Int) == 1) = false := by rw [beq_eq_false_iff_ne]; omega
        have hl1s := u8lt (f 1)
        by_cases hg : 1 < n ∧ 49 ≤ (f 1).toNat ∧ (f 1).toNat ≤ 57
        · obtain ⟨hsn, hg1, hg2⟩ := hg
          have hcs : w.cell? ⟨b, o + 1, none⟩ = some (.int .u8 ((f 1).toNat : Int)) := HC.out 1 hsn
          have hsn' : ¬ (n : Int) ≤ 1 := by omega
          have e1 : ¬ ((f 1).toNat : Int) < 49 := by omega
          have e2 : ¬ (57 : Int) < ((f 1).toNat : Int) := by omega
          have HG : Hid (49 ≤ (f 1).toNat) := hg1
          clear hg1 hg2
          go_enter Tryd.func11, Tryd.ntmps11
          go_wp2
          go_loop [6] (fun q => ∃ j : Nat, 1 ≤ j ∧ j ≤ n ∧ q = .int .i64 j ∧ Hid (∀ t, 1 ≤ t → t < j → Dig (f t))) (fun q => n - (intOf q).toNat)
          case atStart => exact ⟨1, by omega, by omega, rfl, fun t h1 h2 => by omega⟩
          case round =>
            obtain ⟨j, hj1, hj2, rfl, HD⟩ := hrel
            by_cases hjn : j < n
            · have hcj := HC.out j hjn
              have hjn' : (j : Int) < (n : Int) := by omega
              go_wp2_with (go_at_call 23; refine (isDigit_any _ _).mono ?_; rintro e w' ⟨⟨bb, rfl, hbd⟩, hw⟩; obtain rfl := hw.symm; have HB : Hid (bb = true ↔ Dig (f j)) := hbd; clear hw hbd; cases bb)
              · go_ret
                refine ⟨Says.no (fun h => ?_), 0, rfl⟩
                rcases h with ⟨h1, h2⟩ | ⟨_, _, h3, _⟩
                · exact HN.out ⟨h1, h2⟩
                · rw [HSG.out] at h3
                  have := HB.out.2 (h3 j hj1 hjn)
                  cases this
              · go_round
                case rel => exact ⟨j + 1, by omega, by omega, by go_num, fun t h1 h2 => by
                  rcases Nat.lt_succ_iff_lt_or_eq.1 h2 with h | h
                  · exact HD.out t h1 h
                  · subst h; exact HB.out.1 trivial⟩
                case measure => simp [intOf]; omega
            · have hjn2 : n = j := by omega
              subst hjn2
              have hnlt : ¬ (n : Int) < (n : Int) := by omega
              by_cases h19 : n - 1 < 19
              · have h19' : (n : Int) - 1 < 19 := by omega
                have h19'' : (n : Int) < 19 + 1 := by omega
                go_wp2
                go_ret
                refine ⟨Says.yes (canon_small HSG.out hsn HG.out (fun t h1 h2 => HD.out t h1 h2) h19), 0, rfl⟩
              · by_cases h20 : 19 < n - 1
                · have h19' : ¬ (n : Int) - 1 < 19 := by omega
                  have h20' : (19 : Int) < (n : Int) - 1 := by omega
                  have h19'' : ¬ (n : Int) < 19 + 1 := by omega
                  go_wp2
                  go_ret
                  refine ⟨Says.no (canon_large HSG.out HG.out h20), 0, rfl⟩
                · have hn19 : n = 19 + 1 := by omega
                  have h19' : ¬ (n : Int) - 1 < 19 := by omega
                  have h20' : ¬ (19 : Int) < (n : Int) - 1 := by omega
                  have h19'' : ¬ (n : Int) < 19 + 1 := by omega
                  have HN19 : Hid (n = 19 + 1) := hn19
                  clear hn19
                  go_wp2
                  go_loopw [9] (fun q wr => ∃ (j m : Nat), j ≤ 19 ∧ q = .int .i64 j ∧ Hid (wr = w.drewN m ∧ ∀ t, t < j → f (1 + t) = top8.data.getD t 0)) (fun q _ => 19 - (intOf q).toNat)
                  case atStart => exact ⟨0, 0, by omega, rfl, rfl, fun t ht => by omega⟩
                  case round =>
                    obtain ⟨j, m, hj, rfl, HW⟩ := hrel
                    by_cases hjl : j < 19
                    · have hcj : wr.cell? ⟨b, o + (1 + j), none⟩ = some (.int .u8 ((f (1 + j)).toNat : Int)) := by rw [HW.out.1]; simpa using HC.out (1 + j) (by have := HN19.out; omega)
                      have hjl' : (j : Int) < 19 := by omega
                      have hjn : (1 : Int) + (j : Int) < (n : Int) := by have := HN19.out; omega
                      have hwp : IntKind.i64.wrap ((1 : Int) + (j : Int)) = (1 : Int) + (j : Int) := wrap_small (by omega) (by omega)
                      have hb0 : (0 : Int) ≤ (1 : Int) + (j : Int) := by omega
                      have htn : ((1 : Int) + (j : Int)).toNat = 1 + j := by omega
                      have hix := fun w' => top8_at j hjl w'
                      have hlf := u8lt (f (1 + j))
                      have hlg := u8lt (top8.data.getD j 0)
                      by_cases heq : f (1 + j) = top8.data.getD j 0
                      · have hbe : (((f (1 + j)).toNat : Int) != ((top8.data.getD j 0).toNat : Int)) = false := by rw [heq]; simp
                        have HE : Hid (f (1 + j) = top8.data.getD j 0) := heq
                        clear heq
                        generalize htb : top8.data.getD j 0 = tb at *
                        have HTB : Hid (top8.data.getD j 0 = tb) := htb
                        clear htb
                        go_wp2
                        go_quiet (fail)
                        go_wp2
                        exact ⟨⟨j + 1, m + nq, by omega, by go_num, by rw [HW.out.1]; exact drew_two _ _ _, fun t ht => by
                          rcases Nat.lt_succ_iff_lt_or_eq.1 ht with h | h
                          · exact HW.out.2 t h
                          · subst h; rw [HTB.out]; have h3 := HE.out; rwa [show 1 + t = 1 + t by omega]⟩, by simp [intOf]; omega⟩
                      · have hbe : (((f (1 + j)).toNat : Int) != ((top8.data.getD j 0).toNat : Int)) = true := by rw [bne_iff_ne]; exact fun h => heq (UInt8.toNat.inj (by omega))
                        have HE : Hid (f (1 + j) ≠ top8.data.getD j 0) := heq
                        clear heq
                        generalize htb : top8.data.getD j 0 = tb at *
                        have HTB : Hid (top8.data.getD j 0 = tb) := htb
                        clear htb
                        go_wp2
                        go_quiet (fail)
                        go_wp2
                        go_quiet (fail)
                        go_wp2
                        go_ret
                        refine ⟨⟨_, rfl, ?_⟩, drew_ex HW.out.1 _ _⟩
                        · have hlex := canon_lex top8 top8_dv top8_dig HSG.out (by decide) HN19.out HG.out HD.out hjl HW.out.2 (by rw [HTB.out]; have := HE.out; rwa [show 1 + j = 1 + j by omega])
                          rw [HTB.out, show 1 + j = 1 + j by omega] at hlex
                          rw [← hlex, decide_eq_true_iff]
                    · have hjl' : ¬ (j : Int) < 19 := by omega
                      go_wp2
                      go_ret
                      have hj19 : j = 19 := by omega
                      subst hj19
                      exact ⟨Says.yes (canon_eq top8 top8_dv HSG.out (by decide) HN19.out HG.out HD.out HW.out.2), m, HW.out.1⟩
        · have HNG : Hid (¬ (1 < n ∧ 49 ≤ (f 1).toNat ∧ (f 1).toNat ≤ 57)) := hg
          have hfin : Says (.returned (.bool false)) (Canon f n) := Says.no (fun h => by
            rcases h with ⟨h1, h2⟩ | ⟨h1, h2, h3, _⟩
            · exact HN.out ⟨h1, h2⟩
            · rw [HSG.out] at h1 h2 h3
              exact HNG.out ⟨h1, h2, (h3 1 (Nat.le_refl _) h1).2⟩)
          have HFI : Hid (Says (.returned (.bool false)) (Canon f n)) := hfin
          clear hfin
          by_cases hsn : 1 < n
          · have hcs : w.cell? ⟨b, o + 1, none⟩ = some (.int .u8 ((f 1).toNat : Int)) := HC.out 1 hsn
            have hsn' : ¬ (n : Int) ≤ 1 := by omega
            by_cases hlo : (f 1).toNat < 49
            · have e1 : ((f 1).toNat : Int) < 49 := by omega
              clear hg
              go_enter Tryd.func11, Tryd.ntmps11
              go_wp2
              go_ret
              exact ⟨HFI.out, 0, rfl⟩
            · have e1 : ¬ ((f 1).toNat : Int) < 49 := by omega
              have e2 : (57 : Int) < ((f 1).toNat : Int) := by omega
              clear hg
              go_enter Tryd.func11, Tryd.ntmps11
              go_wp2
              go_ret
              exact ⟨HFI.out, 0, rfl⟩
          · omega
      · have HSG : Hid (sg f n = 0) := by unfold sg; exact if_neg (fun h => h45 (by rw [h.2]; rfl))
        have e45 := bne8 h45
        by_cases hn1 : n = 1
        · subst hn1
          have e48 : (((f 0).toNat : Int) == 48) = false := bne8 (k := 48) (fun h => h10 ⟨rfl, h⟩)
          clear h10 h45
          by_cases hlo : (f 0).toNat < 49
          · have e1 : ((f 0).toNat : Int) < 49 := by omega
            have HLO : Hid ((f 0).toNat < 49) := hlo
            clear hlo
            go_enter Tryd.func11, Tryd.ntmps11
            go_wp2
            go_ret
            refine ⟨Says.no (fun h => ?_), 0, rfl⟩
            rcases h with h | ⟨h1, h2, _⟩
            · exact HN.out ⟨trivial, h.2⟩
            · rw [HSG.out] at h2; have := HLO.out; omega
          · by_cases hhi : (f 0).toNat ≤ 57
            · have e1 : ¬ ((f 0).toNat : Int) < 49 := by omega
              have e2 : ¬ (57 : Int) < ((f 0).toNat : Int) := by omega
              have HD : Hid (49 ≤ (f 0).toNat ∧ (f 0).toNat ≤ 57) := ⟨by omega, hhi⟩
              clear hlo hhi
              go_enter Tryd.func11, Tryd.ntmps11
              go_wp2
              go_loop [6] (fun q => ∃ j : Nat, j ≤ 1 ∧ q = .int .i64 j) (fun q => 1 - (intOf q).toNat)
              case atStart => exact ⟨0, by omega, rfl⟩
              case round =>
                obtain ⟨j, hj, rfl⟩ := hrel
                rcases Nat.eq_zero_or_pos j with hj0 | hj0
                · subst hj0
                  go_wp2_with (go_at_call 23; refine (isDigit_any _ _).mono ?_; rintro e w' ⟨⟨bb, rfl, hbd⟩, hw⟩; obtain rfl := hw.symm; obtain rfl : bb = true := hbd.2 ⟨by have := HD.out; omega, by have := HD.out; omega⟩; clear hw hbd)
                  go_round
                  case rel => exact ⟨1, by omega, rfl⟩
                  case measure => simp [intOf]
                · have hj1 : j = 1 := by omega
                  subst hj1
                  go_wp2
                  go_ret
                  refine ⟨Says.yes (canon_small HSG.out (by omega) HD.out.1 (fun t h1 h2 => by rw [show t = 0 by omega]; exact ⟨by have := HD.out; omega, HD.out.2⟩) (by omega)), 0, rfl⟩
            · have e1 : ¬ ((f 0).toNat : Int) < 49 := by omega
              have e2 : (57 : Int) < ((f 0).toNat : Int) := by omega
              have HHI : Hid (57 < (f 0).toNat) := by show 57 < (f 0).toNat; omega
              clear hlo hhi
              go_enter Tryd.func11, Tryd.ntmps11
              go_wp2
              go_ret
              refine ⟨Says.no (fun h => ?_), 0, rfl⟩
              rcases h with h | ⟨h1, h2, h3, _⟩
              · exact HN.out ⟨trivial, h.2⟩
              · rw [HSG.out] at h3; have := (h3 0 (by omega) (by omega)).2; have := HHI.out; omega
        · have hn1' : ((n : Int) == 1) = false := by rw [beq_eq_false_iff_ne]; omega
          clear h10 h45
          have hl0s := u8lt (f 0)
          by_cases hg : 0 < n ∧ 49 ≤ (f 0).toNat ∧ (f 0).toNat ≤ 57
          · obtain ⟨hsn, hg1, hg2⟩ := hg
            have hcs : w.cell? ⟨b, o, none⟩ = some (.int .u8 ((f 0).toNat : Int)) := HC.out 0 hsn
            have hsn' : ¬ (n : Int) ≤ 0 := by omega
            have e1 : ¬ ((f 0).toNat : Int) < 49 := by omega
            have e2 : ¬ (57 : Int) < ((f 0).toNat : Int) := by omega
            have HG : Hid (49 ≤ (f 0).toNat) := hg1
            clear hg1 hg2
            go_enter Tryd.func11, Tryd.ntmps11
            go_wp2
            go_loop [6] (fun q => ∃ j : Nat, 0 ≤ j ∧ j ≤ n ∧ q = .int .i64 j ∧ Hid (∀ t, 0 ≤ t → t < j → Dig (f t))) (fun q => n - (intOf q).toNat)
            case atStart => exact ⟨0, by omega, by omega, rfl, fun t h1 h2 => by omega⟩
            case round =>
              obtain ⟨j, hj1, hj2, rfl, HD⟩ := hrel
              by_cases hjn : j < n
              · have hcj := HC.out j hjn
                have hjn' : (j : Int) < (n : Int) := by omega
                go_wp2_with (go_at_call 23; refine (isDigit_any _ _).mono ?_; rintro e w' ⟨⟨bb, rfl, hbd⟩, hw⟩; obtain rfl := hw.symm; have HB : Hid (bb = true ↔ Dig (f j)) := hbd; clear hw hbd; cases bb)
                · go_ret
                  refine ⟨Says.no (fun h => ?_), 0, rfl⟩
                  rcases h with ⟨h1, h2⟩ | ⟨_, _, h3, _⟩
                  · exact HN.out ⟨h1, h2⟩
                  · rw [HSG.out] at h3
                    have := HB.out.2 (h3 j hj1 hjn)
                    cases this
                · go_round
                  case rel => exact ⟨j + 1, by omega, by omega, by go_num, fun t h1 h2 => by
                    rcases Nat.lt_succ_iff_lt_or_eq.1 h2 with h | h
                    · exact HD.out t h1 h
                    · subst h; exact HB.out.1 trivial⟩
                  case measure => simp [intOf]; omega
              · have hjn2 : n = j := by omega
                subst hjn2
                have hnlt : ¬ (n : Int) < (n : Int) := by omega
                by_cases h19 : n - 0 < 19
                · have h19' : (n : Int) - 0 < 19 := by omega
                  have h19'' : (n : Int) < 19 + 0 := by omega
                  go_wp2
                  go_ret
                  refine ⟨Says.yes (canon_small HSG.out hsn HG.out (fun t h1 h2 => HD.out t h1 h2) h19), 0, rfl⟩
                · by_cases h20 : 19 < n - 0
                  · have h19' : ¬ (n : Int) - 0 < 19 := by omega
                    have h20' : (19 : Int) < (n : Int) - 0 := by omega
                    have h19'' : ¬ (n : Int) < 19 + 0 := by omega
                    go_wp2
                    go_ret
                    refine ⟨Says.no (canon_large HSG.out HG.out h20), 0, rfl⟩
                  · have hn19 : n = 19 + 0 := by omega
                    have h19' : ¬ (n : Int) - 0 < 19 := by omega
                    have h20' : ¬ (19 : Int) < (n : Int) - 0 := by omega
                    have h19'' : ¬ (n : Int) < 19 + 0 := by omega
                    have HN19 : Hid (n = 19 + 0) := hn19
                    clear hn19
                    go_wp2
                    go_loopw [9] (fun q wr => ∃ (j m : Nat), j ≤ 19 ∧ q = .int .i64 j ∧ Hid (wr = w.drewN m ∧ ∀ t, t < j → f (0 + t) = top7.data.getD t 0)) (fun q _ => 19 - (intOf q).toNat)
                    case atStart => exact ⟨0, 0, by omega, rfl, rfl, fun t ht => by omega⟩
                    case round =>
                      obtain ⟨j, m, hj, rfl, HW⟩ := hrel
                      by_cases hjl : j < 19
                      · have hcj : wr.cell? ⟨b, o + j, none⟩ = some (.int .u8 ((f (j)).toNat : Int)) := by rw [HW.out.1]; simpa using HC.out (j) (by have := HN19.out; omega)
                        have hjl' : (j : Int) < 19 := by omega
                        have hjn : (j : Int) < (n : Int) := by have := HN19.out; omega
                        have hwp : IntKind.i64.wrap ((j : Int)) = (j : Int) := wrap_small (by omega) (by omega)
                        have hb0 : (0 : Int) ≤ (j : Int) := by omega
                        have htn : ((j : Int)).toNat = j := by omega
                        have hix := fun w' => top7_at j hjl w'
                        have hlf := u8lt (f (j))
                        have hlg := u8lt (top7.data.getD j 0)
                        by_cases heq : f (j) = top7.data.getD j 0
                        · have hbe : (((f (j)).toNat : Int) != ((top7.data.getD j 0).toNat : Int)) = false := by rw [heq]; simp
                          have HE : Hid (f (j) = top7.data.getD j 0) := heq
                          clear heq
                          generalize htb : top7.data.getD j 0 = tb at *
                          have HTB : Hid (top7.data.getD j 0 = tb) := htb
                          clear htb
                          go_wp2
                          go_quiet (fail)
                          go_wp2
                          exact ⟨⟨j + 1, m + nq, by omega, by go_num, by rw [HW.out.1]; exact drew_two _ _ _, fun t ht => by
                            rcases Nat.lt_succ_iff_lt_or_eq.1 ht with h | h
                            · exact HW.out.2 t h
                            · subst h; rw [HTB.out]; have h3 := HE.out; rwa [show 0 + t = t by omega]⟩, by simp [intOf]; omega⟩
                        · have hbe : (((f (j)).toNat : Int) != ((top7.data.getD j 0).toNat : Int)) = true := by rw [bne_iff_ne]; exact fun h => heq (UInt8.toNat.inj (by omega))
                          have HE : Hid (f (j) ≠ top7.data.getD j 0) := heq
                          clear heq
                          generalize htb : top7.data.getD j 0 = tb at *
                          have HTB : Hid (top7.data.getD j 0 = tb) := htb
                          clear htb
                          go_wp2
                          go_quiet (fail)
                          go_wp2
                          go_quiet (fail)
                          go_wp2
                          go_ret
                          refine ⟨⟨_, rfl, ?_⟩, drew_ex HW.out.1 _ _⟩
                          · have hlex := canon_lex top7 top7_dv top7_dig HSG.out (by decide) HN19.out HG.out HD.out hjl HW.out.2 (by rw [HTB.out]; have := HE.out; rwa [show 0 + j = j by omega])
                            rw [HTB.out, show 0 + j = j by omega] at hlex
                            rw [← hlex, decide_eq_true_iff]
                      · have hjl' : ¬ (j : Int) < 19 := by omega
                        go_wp2
                        go_ret
                        have hj19 : j = 19 := by omega
                        subst hj19
                        exact ⟨Says.yes (canon_eq top7 top7_dv HSG.out (by decide) HN19.out HG.out HD.out HW.out.2), m, HW.out.1⟩
          · have HNG : Hid (¬ (0 < n ∧ 49 ≤ (f 0).toNat ∧ (f 0).toNat ≤ 57)) := hg
            have hfin : Says (.returned (.bool false)) (Canon f n) := Says.no (fun h => by
              rcases h with ⟨h1, h2⟩ | ⟨h1, h2, h3, _⟩
              · exact HN.out ⟨h1, h2⟩
              · rw [HSG.out] at h1 h2 h3
                exact HNG.out ⟨h1, h2, (h3 0 (Nat.le_refl _) h1).2⟩)
            have HFI : Hid (Says (.returned (.bool false)) (Canon f n)) := hfin
            clear hfin
            by_cases hsn : 0 < n
            · have hcs : w.cell? ⟨b, o, none⟩ = some (.int .u8 ((f 0).toNat : Int)) := HC.out 0 hsn
              have hsn' : ¬ (n : Int) ≤ 0 := by omega
              by_cases hlo : (f 0).toNat < 49
              · have e1 : ((f 0).toNat : Int) < 49 := by omega
                clear hg
                go_enter Tryd.func11, Tryd.ntmps11
                go_wp2
                go_ret
                exact ⟨HFI.out, 0, rfl⟩
              · have e1 : ¬ ((f 0).toNat : Int) < 49 := by omega
                have e2 : (57 : Int) < ((f 0).toNat : Int) := by omega
                clear hg
                go_enter Tryd.func11, Tryd.ntmps11
                go_wp2
                go_ret
                exact ⟨HFI.out, 0, rfl⟩
            · omega
  · have hn0 : n = 0 := by omega
    subst hn0
    go_enter Tryd.func11, Tryd.ntmps11
    go_wp2
    go_ret
    exact ⟨Says.no (fun h => by rcases h with ⟨h, _⟩ | ⟨h, _⟩ <;> omega), 0, rfl⟩
end Go.Proofs.Qxb6628404aDoor
