/-
  zzIsJSONNumber (14).
-/
import Derived.Test.Qxb6628404aDoorLeaf
import Derived.BigCall
import Derived.BigGuard
namespace Go.Proofs.Qxb6628404aDoor
open Go.RowKit Go.Lib

theorem beq_u8 {c : UInt8} {k : Nat} (h : c.toNat = k) : ((c.toNat : Int) == (k : Int)) = true := by simp [h]
theorem bne_u8 {c : UInt8} {k : Nat} (h : c.toNat ≠ k) : ((c.toNat : Int) == (k : Int)) = false := by rw [beq_eq_false_iff_ne]; omega

theorem eq_u8 (c : UInt8) (k : Nat) (hk : k < 256) : ((c.toNat : Int) == (k : Int)) = true ↔ c = UInt8.ofNat k := by
  rw [beq_iff_eq]
  constructor
  · exact fun h => u8_of (by omega)
  · rintro rfl; rw [UInt8.toNat_ofNat_of_lt' hk]

theorem or_no {a b : Bool} (ha : a = false) (hb : b = false) : (a || b) = false := by rw [ha, hb]; rfl

set_option maxRecDepth 100000 in
set_option maxHeartbeats 4000000 in
theorem num_any (B : Nat) (A : Option Addr) (n c : Nat) (f : Nat → UInt8) (w : World) (hS : Byt B w A n f) :
    Calls Tryd.prog 14 #[.slice A n c] w fun e w' => Only e (Num f n) ∧ w' = w := by
  have hlen := hS.len
  by_cases hn : 0 < n
  · obtain ⟨b, o, rfl, _, _⟩ := hS.cells 0 hn
    have HC : Hid (∀ j, j < n → w.cell? ⟨b, o + j, none⟩ = some (.int .u8 ((f j).toNat : Int))) := fun j hj => by
      obtain ⟨b', o', h1, _, h3⟩ := hS.cells j hj
      cases h1
      exact h3
    have hn' : (0 : Int) < (n : Int) := by omega
    clear hS
    go_enter Tryd.func14, Tryd.ntmps14
    go_upto_region 3 with fail
    go_cut [16] (fun t wc => ∃ bm : Bool, t = .bool bm ∧ Hid (bm = true ↔ f 0 = 45) ∧ wc = w)
    case first => as_aux_lemma =>
      have hc0 : w.cell? ⟨b, o, none⟩ = some (.int .u8 ((f 0).toNat : Int)) := HC.out 0 hn
      go_wp2
      go_meet
      exact ⟨_, rfl, eq_u8 (f 0) 45 (by decide), rfl⟩
    case rest => as_aux_lemma =>
      obtain ⟨bm, rfl, HM, rfl⟩ := hcut
      go_upto_if 16 with fail
      go_cut [4] (fun i wx => i = .int .i64 (sg f n : Int) ∧ wx = wc)
      case first => as_aux_lemma =>
        cases bm
        · have HE : Hid (sg f n = 0) := by unfold sg; exact if_neg (fun h => by have := HM.out.2 h.2; cases this)
          go_wp2
          go_meet
          exact ⟨by rw [HE.out]; rfl, rfl⟩
        · have HE : Hid (sg f n = 1) := by unfold sg; exact if_pos ⟨hn, HM.out.1 rfl⟩
          go_wp2
          go_meet
          exact ⟨by rw [HE.out]; rfl, rfl⟩
      case rest => as_aux_lemma =>
        obtain ⟨rfl, rfl⟩ := hcut
        have hs1 := sg_le f n
        by_cases hsn : sg f n < n
        · have hcs := HC.out _ hsn
          have hsn' : ¬ (n : Int) ≤ (sg f n : Int) := by omega
          by_cases hF : Num f n
          · have HF : Hid (Num f n) := hF
            clear hF
            go_upto_if 26 with fail
            go_cut [4] (fun i wx => (∃ j : Nat, j ≤ n ∧ i = .int .i64 j) ∧ wx = wc)
            case first => as_aux_lemma =>
              have hcl := u8lt (f (sg f n))
              by_cases h48 : (f (sg f n)).toNat = 48
              · have e1 := beq_u8 h48
                clear h48
                go_wp2
                go_meet
                exact ⟨⟨sg f n + 1, by omega, by go_num⟩, rfl⟩
              · have e1 := bne_u8 h48
                have hd := HF.out.2.1
                unfold Dig at hd
                have e2 : (49 : Int) ≤ ((f (sg f n)).toNat : Int) := by omega
                have e3 : ((f (sg f n)).toNat : Int) ≤ 57 := by omega
                clear h48 hd
                go_wp2
                go_loop [4] (fun i => ∃ j : Nat, j ≤ n ∧ i = .int .i64 j) (fun i => n - (intOf i).toNat)
                case atStart => exact ⟨sg f n + 1, by omega, by go_num⟩
                case round =>
                  obtain ⟨j, hj, rfl⟩ := hrel
                  by_cases hjn : j < n
                  · have hcj := HC.out j hjn
                    have hjn' : (j : Int) < (n : Int) := by omega
                    go_wp2_with (go_at_call 23; refine (isDigit_any _ _).mono ?_; rintro e w' ⟨⟨bb, rfl, hbd⟩, hw⟩; obtain rfl := hw.symm; clear hw hbd; cases bb)
                    · go_meet
                      exact ⟨⟨j, hj, rfl⟩, rfl⟩
                    · go_round
                      case rel => exact ⟨j + 1, by omega, by go_num⟩
                      case measure => simp [intOf]; omega
                  · go_wp2
                    go_meet
                    exact ⟨⟨j, hj, rfl⟩, rfl⟩
            case rest => as_aux_lemma =>
              obtain ⟨⟨j, hj, rfl⟩, rfl⟩ := hcut
              clear hcs hsn hsn' hs1
              by_cases hjn : j < n
              · have hcj := HC.out j hjn
                have hjn' : (j : Int) < (n : Int) := by omega
                go_upto_if 64 with fail
                go_cut [4] (fun i wx => (∃ j : Nat, j ≤ n ∧ i = .int .i64 j) ∧ wx = wc)
                case first => as_aux_lemma =>
                  have hcl := u8lt (f j)
                  by_cases h46 : (f j).toNat = 46
                  · have e1 := beq_u8 h46
                    clear h46
                    go_upto_region 15 with fail
                    go_cut [4] (fun i wx => (∃ t : Nat, i = .int .i64 t ∧ t = j + 1) ∧ wx = wc)
                    case first => as_aux_lemma =>
                      go_wp2
                      go_meet
                      exact ⟨⟨j + 1, by go_num, rfl⟩, rfl⟩
                    case rest => as_aux_lemma =>
                      obtain ⟨⟨t, rfl, ht⟩, rfl⟩ := hcut
                      have HT : Hid (t = j + 1) := ht
                      have htn : t ≤ n := by omega
                      clear ht hcj hjn hjn' e1 hcl
                      by_cases hj1 : t < n
                      · have hcj1 := HC.out t hj1
                        have hj1' : ¬ (n : Int) ≤ (t : Int) := by omega
                        go_wp2_with (go_at_call 23; refine (isDigit_any _ _).mono ?_; rintro e w' ⟨⟨bb, rfl, hbd⟩, hw⟩; obtain rfl := hw.symm; clear hw hbd; cases bb)
                        · go_ret
                          exact ⟨⟨false, rfl, fun h => by cases h⟩, rfl⟩
                        · go_loop [4] (fun i => ∃ j : Nat, j ≤ n ∧ i = .int .i64 j) (fun i => n - (intOf i).toNat)
                          case atStart => exact ⟨t, by omega, rfl⟩
                          case round =>
                            obtain ⟨r, hr, rfl⟩ := hrel
                            by_cases hrn : r < n
                            · have hct := HC.out r hrn
                              have hrn' : (r : Int) < (n : Int) := by omega
                              go_wp2_with (go_at_call 23; refine (isDigit_any _ _).mono ?_; rintro e w' ⟨⟨bb, rfl, hbd⟩, hw⟩; obtain rfl := hw.symm; clear hw hbd; cases bb)
                              · go_meet
                                exact ⟨⟨r, hr, rfl⟩, rfl⟩
                              · go_round
                                case rel => exact ⟨r + 1, by omega, by go_num⟩
                                case measure => simp [intOf]; omega
                            · go_wp2
                              go_meet
                              exact ⟨⟨r, hr, rfl⟩, rfl⟩
                      · have hj1' : (n : Int) ≤ (t : Int) := by omega
                        go_wp2
                        go_ret
                        exact ⟨⟨false, rfl, fun h => by cases h⟩, rfl⟩
                  · have e1 := bne_u8 h46
                    clear h46
                    go_wp2
                    go_meet
                    exact ⟨⟨j, hj, rfl⟩, rfl⟩
                case rest => as_aux_lemma =>
                  obtain ⟨⟨k, hk, rfl⟩, rfl⟩ := hcut
                  clear hcj hjn hjn'
                  by_cases hkn : k < n
                  · have hck := HC.out k hkn
                    have hkn' : (k : Int) < (n : Int) := by omega
                    have hcl := u8lt (f k)
                    go_upto_region 20 with fail
                    go_cut [106] (fun t wx => (∃ bm : Bool, t = .bool bm) ∧ wx = wc)
                    case first => as_aux_lemma =>
                      by_cases h101 : (f k).toNat = 101
                      · have e1 := beq_u8 h101
                        clear h101
                        go_wp2
                        all_goals
                          go_meet
                          exact ⟨⟨_, rfl⟩, rfl⟩
                      · have e1 := bne_u8 h101
                        clear h101
                        go_wp2
                        all_goals
                          go_meet
                          exact ⟨⟨_, rfl⟩, rfl⟩
                    case rest => as_aux_lemma =>
                      obtain ⟨⟨bm, rfl⟩, rfl⟩ := hcut
                      cases bm
                      · go_wp2
                        go_ret
                        exact ⟨⟨_, rfl, fun _ => HF.out⟩, rfl⟩
                      · go_upto_region 21 with fail
                        go_cut [4] (fun i wx => (∃ t : Nat, t ≤ n ∧ i = .int .i64 t) ∧ wx = wc)
                        case first => as_aux_lemma =>
                          go_wp2
                          go_meet
                          exact ⟨⟨k + 1, by omega, by go_num⟩, rfl⟩
                        case rest => as_aux_lemma =>
                          obtain ⟨⟨t, ht, rfl⟩, rfl⟩ := hcut
                          clear hck hkn hkn' hcl
                          by_cases htn : t < n
                          · have hct := HC.out t htn
                            have htn' : (t : Int) < (n : Int) := by omega
                            go_upto_region 22 with fail
                            go_cut [125] (fun v wx => (∃ bm : Bool, v = .bool bm) ∧ wx = wc)
                            case first => as_aux_lemma =>
                              by_cases h43 : (f t).toNat = 43
                              · have e1 := beq_u8 h43
                                clear h43
                                go_wp2
                                all_goals
                                  go_meet
                                  exact ⟨⟨_, rfl⟩, rfl⟩
                              · have e1 := bne_u8 h43
                                clear h43
                                go_wp2
                                all_goals
                                  go_meet
                                  exact ⟨⟨_, rfl⟩, rfl⟩
                            case rest => as_aux_lemma =>
                              obtain ⟨⟨bs, rfl⟩, rfl⟩ := hcut
                              go_upto_if 125 with fail
                              go_cut [4] (fun i wx => (∃ r : Nat, r ≤ n ∧ i = .int .i64 r) ∧ wx = wc)
                              case first => as_aux_lemma =>
                                cases bs
                                · go_wp2
                                  go_meet
                                  exact ⟨⟨t, ht, rfl⟩, rfl⟩
                                · go_wp2
                                  go_meet
                                  exact ⟨⟨t + 1, by omega, by go_num⟩, rfl⟩
                              case rest => as_aux_lemma =>
                                obtain ⟨⟨r, hr, rfl⟩, rfl⟩ := hcut
                                clear hct htn htn'
                                by_cases hrn : r < n
                                · have hcr := HC.out r hrn
                                  have hrn' : ¬ (n : Int) ≤ (r : Int) := by omega
                                  go_wp2_with (go_at_call 23; refine (isDigit_any _ _).mono ?_; rintro e w' ⟨⟨bb, rfl, hbd⟩, hw⟩; obtain rfl := hw.symm; clear hw hbd; cases bb)
                                  · go_ret
                                    exact ⟨⟨false, rfl, fun h => by cases h⟩, rfl⟩
                                  · go_loop [4] (fun i => ∃ j : Nat, j ≤ n ∧ i = .int .i64 j) (fun i => n - (intOf i).toNat)
                                    case atStart => exact ⟨r, by omega, rfl⟩
                                    case round =>
                                      obtain ⟨p, hp, rfl⟩ := hrel
                                      by_cases hpn : p < n
                                      · have hcp := HC.out p hpn
                                        have hpn' : (p : Int) < (n : Int) := by omega
                                        go_wp2_with (go_at_call 23; refine (isDigit_any _ _).mono ?_; rintro e w' ⟨⟨bb, rfl, hbd⟩, hw⟩; obtain rfl := hw.symm; clear hw hbd; cases bb)
                                        · go_ret
                                          exact ⟨⟨_, rfl, fun _ => HF.out⟩, rfl⟩
                                        · go_round
                                          case rel => exact ⟨p + 1, by omega, by go_num⟩
                                          case measure => simp [intOf]; omega
                                      · go_wp2
                                        go_ret
                                        exact ⟨⟨_, rfl, fun _ => HF.out⟩, rfl⟩
                                · have hrn' : (n : Int) ≤ (r : Int) := by omega
                                  go_wp2
                                  go_ret
                                  exact ⟨⟨false, rfl, fun h => by cases h⟩, rfl⟩
                          · have htn' : ¬ (t : Int) < (n : Int) := by omega
                            have htn2 : (n : Int) ≤ (t : Int) := by omega
                            go_wp2
                            go_ret
                            exact ⟨⟨false, rfl, fun h => by cases h⟩, rfl⟩
                  · go_wp2
                    go_ret
                    exact ⟨⟨_, rfl, fun _ => HF.out⟩, rfl⟩
              · go_wp2
                go_ret
                exact ⟨⟨_, rfl, fun _ => HF.out⟩, rfl⟩
          · have hcl := u8lt (f (sg f n))
            by_cases h48 : (f (sg f n)).toNat = 48
            · have hn1 : sg f n + 1 < n ∧ Dig (f (sg f n + 1)) := by
                refine ⟨Nat.lt_of_not_le fun h => ?_, ?_⟩
                · exact hF ⟨hsn, ⟨by omega, by omega⟩, fun _ => .inl (by omega)⟩
                · refine Classical.byContradiction fun h => ?_
                  exact hF ⟨hsn, ⟨by omega, by omega⟩, fun _ => .inr h⟩
              obtain ⟨hn1, hd1⟩ := hn1
              unfold Dig at hd1
              have hc1 := HC.out _ hn1
              have hcl1 := u8lt (f (sg f n + 1))
              have e1 := beq_u8 h48
              have e2 := bne_u8 (c := f (sg f n + 1)) (k := 46) (by omega)
              have HD1 : Hid (48 ≤ (f (sg f n + 1)).toNat ∧ (f (sg f n + 1)).toNat ≤ 57) := hd1
              have hi1 : (sg f n : Int) + 1 < (n : Int) := by omega
              have e5 : ((sg f n : Int) + 1 == (n : Int)) = false := by rw [beq_eq_false_iff_ne]; omega
              clear h48 hF hd1
              go_upto_region 20 with fail
              go_cut [106] (fun v wx => (∃ bm : Bool, v = .bool bm ∧ Hid (bm = false)) ∧ wx = wc)
              case first => as_aux_lemma =>
                go_wp2
                all_goals
                  go_meet
                  refine ⟨⟨_, rfl, ?_⟩, rfl⟩
                  first
                    | (exfalso; have := HD1.out; omega)
                    | exact bne_u8 (c := f (sg f n + 1)) (k := 69) (by have := HD1.out; omega)
                    | exact or_no (bne_u8 (c := f (sg f n + 1)) (k := 101) (by have := HD1.out; omega)) (bne_u8 (c := f (sg f n + 1)) (k := 69) (by have := HD1.out; omega))
              case rest => as_aux_lemma =>
                obtain ⟨⟨bm, rfl, HM⟩, rfl⟩ := hcut
                obtain rfl := HM.out
                go_wp2
                go_ret
                exact ⟨⟨false, rfl, fun h => by cases h⟩, rfl⟩
            · have hd : ¬ Dig (f (sg f n)) := fun h => hF ⟨hsn, h, fun e => absurd (by rw [e]; rfl) h48⟩
              unfold Dig at hd
              have e1 := bne_u8 h48
              by_cases h49 : 49 ≤ (f (sg f n)).toNat
              · have e2 : (49 : Int) ≤ ((f (sg f n)).toNat : Int) := by omega
                have e3 : ¬ ((f (sg f n)).toNat : Int) ≤ 57 := by omega
                clear h48 hF hd
                go_wp2
                go_ret
                exact ⟨⟨false, rfl, fun h => by cases h⟩, rfl⟩
              · have e2 : ¬ (49 : Int) ≤ ((f (sg f n)).toNat : Int) := by omega
                clear h48 hF hd
                go_wp2
                go_ret
                exact ⟨⟨false, rfl, fun h => by cases h⟩, rfl⟩
        · go_wp2
          go_ret
          exact ⟨⟨false, rfl, fun h => by cases h⟩, rfl⟩
  · go_enter Tryd.func14, Tryd.ntmps14
    go_wp2
    go_ret
    exact ⟨⟨false, rfl, fun h => by cases h⟩, rfl⟩
end Go.Proofs.Qxb6628404aDoor
