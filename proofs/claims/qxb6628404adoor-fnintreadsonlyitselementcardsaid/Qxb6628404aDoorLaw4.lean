/-
  FnIntReadsOnlyItsElement (4).
-/
import Derived.Test.Qxb6628404aDoorLaw4a
namespace Go.Proofs.Qxb6628404aDoor
open Go.RowKit Go.Lib Go.Maps Go.BigFrame

theorem Four.afterH {w wr wr' : World} {n m : Nat} {f g : Nat → UInt8} {M1 M2 G1 G2 T : Option Addr} {cT c1 c2 : Nat} {x1 x2 x3 x4 d1 d2 d3 d4 : Nat} (h : Hid (Four w wr n m f g M1 M2 G1 G2 T cT c1 c2 x1 x2 x3 x4 d1 d2 d3 d4)) (hb : Below wr.heap.size wr wr') : Hid (Four w wr' n m f g M1 M2 G1 G2 T cT c1 c2 x1 x2 x3 x4 d1 d2 d3 d4) := Four.after h.out hb
def isNil : Value → Bool
  | .nilIface => true
  | _ => false
theorem fixed_of {f : Nat → UInt8} {n c : Nat} {v : Int} {e : Value} {M : Option Addr} {w0 : World} (h : IntRes f n v e) (hN : Num f n) (hM : Byt w0.heap.size w0 M n f) (b : Bool) (hb : isNil e = b) (W : World) (hW : Below w0.heap.size w0 W) :
    Calls Tryd.prog 16 #[.slice M n c, .int .i64 v, .bool b] W fun e w' => e = .returned (.bool true) ∧ Below W.heap.size W w' := by
  rcases h.ex with ⟨h1, h2, rfl⟩ | ⟨h1, rfl, t, p, rfl⟩
  · obtain rfl : true = b := hb
    have hr := parse_range hN h2
    exact fixed_yes w0.heap.size M n c f v hr.1 hr.2 (num_pos hN) h1 (itoa_canon hN h1 h2) W hW.size (hM.below hW (Nat.le_refl _))
  · obtain rfl : false = b := hb
    exact fixed_no w0.heap.size M n c f h1 W (hM.below hW (Nat.le_refl _))
theorem IntRes.same {f : Nat → UInt8} {n : Nat} {v v' : Int} {e e' : Value} (h : IntRes f n v e) (h' : IntRes f n v' e') : v' = v ∧ ((e = .nilIface ∧ e' = .nilIface) ∨ ∃ t p t' p', e = .iface t (.pointer (some p)) ∧ e' = .iface t' (.pointer (some p'))) := by
  rcases h.ex with ⟨h1, h2, rfl⟩ | ⟨h1, rfl, t, p, rfl⟩ <;> rcases h'.ex with ⟨h3, h4, rfl⟩ | ⟨h3, rfl, t', p', rfl⟩
  · rw [h2] at h4
    cases h4
    exact ⟨rfl, .inl ⟨rfl, rfl⟩⟩
  · exact absurd h1 h3
  · exact absurd h3 h1
  · exact ⟨rfl, .inr ⟨_, _, _, _, rfl, rfl⟩⟩
theorem below_drew1 (w : World) : Below w.heap.size w w.drew := ⟨rfl, rfl, rfl, Nat.le_refl _, fun _ _ => rfl⟩
theorem below_drewed {w w' : World} (h : Below w.drew.heap.size w.drew w') : Below w.heap.size w w' := (below_drew1 w).trans h
/-- The worlds that keep all that lies in w. -/
structure UpTo (w w' : World) : Prop where
  out : Below w.heap.size w w'
theorem UpTo.on {w w' w'' : World} (h : UpTo w w') (hb : Below w'.heap.size w' w'') : UpTo w w'' := ⟨h.out.trans (hb.mono h.out.size)⟩
theorem wp_region_upto {id : Nat} {Q : Exit → Act → World → Prop} {a : Act} {w : World} {l : List Oper} (hm : Tryd.prog.follows .mixedOrders = true) (hB : Region.lexB .any l.toArray = true)
    (h : wpQuiet Tryd.prog l.toArray (UpTo w) (fun a' => ∀ w', UpTo w w' → Q .normal a' w') l a) : (Code.region id l.toArray true).wp Tryd.prog Q a w :=
  wp_region_quiet (C := UpTo w) hm hB ⟨⟨rfl, rfl, rfl, Nat.le_refl _, fun _ _ => rfl⟩⟩ (by simpa using h)
theorem getD_txt (f : Nat → UInt8) (n j : Nat) (hj : j < n) : (txt f 0 n)[j]? = some (f j) := by
  simp [txt, hj]
theorem text_a (f g : Nat → UInt8) (n m j : Nat) (hj : j < n) : (91 :: txt f 0 n ++ [44] ++ txt g 0 m ++ [93]).getD (1 + j) 0 = f j := by
  rw [List.getD_eq_getElem?_getD, List.append_assoc, List.append_assoc, List.getElem?_append_left (by simp [txt_length]; omega), Nat.add_comm 1 j, List.getElem?_cons_succ, getD_txt f n j hj]
  rfl
theorem text_b (f g : Nat → UInt8) (n m j : Nat) (hj : j < m) : (91 :: txt f 0 n ++ [44] ++ txt g 0 m ++ [93]).getD (2 + n + j) 0 = g j := by
  rw [List.getD_eq_getElem?_getD, List.append_assoc, List.getElem?_append_right (by simp [txt_length]; omega), List.getElem?_append_left (by simp [txt_length]; omega), show 2 + n + j - (91 :: txt f 0 n ++ [44] : List UInt8).length = j by simp [txt_length]; omega, getD_txt g m j hj]
  rfl

set_option maxRecDepth 100000 in
set_option maxHeartbeats 2000000 in
theorem law4 (B : Nat) (A : Option Addr) (n c : Nat) (f : Nat → UInt8) (A2 : Option Addr) (m c2 : Nat) (g : Nat → UInt8) (w : World) (hB : B ≤ w.heap.size) (h2 : 2 ≤ w.heap.size) (hE : Errs w) (hS : Byt B w A n f) (hS2 : Byt B w A2 m g) (hA : A = none → n = 0) (hA2 : A2 = none → m = 0) :
    Calls Tryd.prog 4 #[.slice A n c, .slice A2 m c2] w fun e w' => e = .returned (.bool true) ∧ Below w.heap.size w w' := by
  have HCa : Hid (∀ W, Below w.heap.size w W → n ≤ 1048576 → Calls Tryd.prog 7 #[.slice A n c] W fun e w' => Copied W w' e n f ∧ Below W.heap.size W w') := fun W hb hn => copy_any B A n c f W (Nat.le_trans hB hb.size) (hS.below hb hB) hn hA
  have HCb : Hid (∀ W, Below w.heap.size w W → m ≤ 1048576 → Calls Tryd.prog 7 #[.slice A2 m c2] W fun e w' => Copied W w' e m g ∧ Below W.heap.size W w') := fun W hb hn => copy_any B A2 m c2 g W (Nat.le_trans hB hb.size) (hS2.below hb hB) hn hA2
  have k13 := bytes13_any A n c A2 m c2 w hS.len hS2.len
  have k14 := num_any B A n c f w hS
  have k14b := num_any B A2 m c2 g w hS2
  have hln := hS.len
  have hlm := hS2.len
  have HE : Hid (Errs w) := hE
  have HS : Hid (Byt w.heap.size w A n f) := hS.mono hB
  have HS2 : Hid (Byt w.heap.size w A2 m g) := hS2.mono hB
  clear hE hS hS2 hA hA2 hB
  go_enter Tryd.func4, Tryd.ntmps4
  go_wp2_with (first
    | (go_at_call 13; refine k13.mono ?_)
    | fail)
  rintro e w ⟨⟨b, rfl, hb⟩, rfl⟩
  clear k13
  cases b
  · clear k14 k14b hb
    go_wp2
    go_ret
    exact ⟨rfl, Below.refl _ _⟩
  have hnm := hb rfl
  clear hb
  by_cases hn5 : n ≤ 524288
  case neg =>
    have e5 : (524288 : Int) < (n : Int) := by omega
    clear k14 k14b
    go_wp2
    go_ret
    exact ⟨rfl, Below.refl _ _⟩
  by_cases hm5 : m ≤ 524288
  case neg =>
    have e4 : ¬ (524288 : Int) < (n : Int) := by omega
    have e5 : (524288 : Int) < (m : Int) := by omega
    clear k14 k14b
    go_wp2
    go_ret
    exact ⟨rfl, Below.refl _ _⟩
  have e4 : ¬ (524288 : Int) < (n : Int) := by omega
  have e5 : ¬ (524288 : Int) < (m : Int) := by omega
  go_wp2_with (first
    | (go_at_call 14; refine k14.mono ?_)
    | fail)
  rintro e w ⟨⟨b, rfl, hb⟩, rfl⟩
  clear k14
  cases b
  · clear hb k14b
    go_wp2
    go_ret
    exact ⟨rfl, Below.refl _ _⟩
  have HN : Hid (Num f n) := hb rfl
  clear hb
  go_wp2_with (first
    | (go_at_call 14; refine k14b.mono ?_)
    | fail)
  rintro e w ⟨⟨b, rfl, hb⟩, rfl⟩
  clear k14b
  cases b
  · clear hb
    go_wp2
    go_ret
    exact ⟨rfl, Below.refl _ _⟩
  have HM : Hid (Num g m) := hb rfl
  clear hb e4 e5
  go_wp2_with (first
    | (go_at_call 7; refine (HCa.out _ (Below.refl _ _) (by omega)).mono ?_)
    | fail)
  rintro e w1 ⟨⟨M1, cm1, rfl, _, _, hm1⟩, hb1⟩
  go_wp2_with (first
    | (go_at_call 7; refine (HCb.out _ hb1 (by omega)).mono ?_)
    | fail)
  rintro e w2 ⟨⟨M2, cm2, rfl, _, _, hm2⟩, hb2⟩
  have hb02 := hb1.trans (hb2.mono hb1.size)
  replace hm1 := (hm1.below hb2 (Nat.le_refl _)).mono hb2.size
  clear hb2 hb1
  go_wp2_with (first
    | (go_at_call 7; refine (HCa.out _ hb02 (by omega)).mono ?_)
    | fail)
  rintro e w3 ⟨⟨G1, cg1, rfl, hcg1, _, hg1⟩, hb3⟩
  have hb03 := hb02.trans (hb3.mono hb02.size)
  replace hm1 := (hm1.below hb3 (Nat.le_refl _)).mono hb3.size
  replace hm2 := (hm2.below hb3 (Nat.le_refl _)).mono hb3.size
  clear hb3 hb02
  go_wp2_with (first
    | (go_at_call 7; refine (HCb.out _ hb03 (by omega)).mono ?_)
    | fail)
  rintro e W ⟨⟨G2, cg2, rfl, hcg2, _, hg2⟩, hb4⟩
  have HC : Hid (Cops w W A A2 n m f g M1 M2 G1 G2) := ⟨HS.out.below (hb03.trans (hb4.mono hb03.size)) (Nat.le_refl _), HS2.out.below (hb03.trans (hb4.mono hb03.size)) (Nat.le_refl _), (hm1.below hb4 (Nat.le_refl _)).mono hb4.size, (hm2.below hb4 (Nat.le_refl _)).mono hb4.size, (hg1.below hb4 (Nat.le_refl _)).mono hb4.size, hg2, hb03.trans (hb4.mono hb03.size)⟩
  clear HCa HCb hb4 hb03 hm1 hm2 hg1 hg2
  obtain ⟨i5, hi5, hz5, hs5, hb5⟩ := info_parts info5
  go_wp2_with (first
    | (at_make; refine wpList_make_own _ rfl _ _ 22 rfl W.heap.size 5 i5 (.int .u8 0) 1 Tryd.underlying22 hi5 hz5 hs5 _ _ _ (n + m + 3) rfl rfl (by omega) (by rw [hb5]; omega) (by unfold maxLen; omega) (Nat.le_refl _) ?_; intro w6 hrow6 hg6)
    | (at_builtin; refine app_one (s := 91) (by decide) rfl _ _ rfl rfl rfl (own_made hrow6) (by omega) hg6.size ?_; intro A7 c7 w7 hown7 hb67; go_frame)
    | go_in)
  have hb7 : Below W.heap.size W w7 := ((Below.refl _ W).grown hg6 (Nat.le_refl _) (fun j hj => by cases hj)).trans hb67
  clear hrow6 hg6 hb67
  have HB7 : Hid (Below W.heap.size W w7) := hb7
  have HO7 : Hid (Own w7 W.heap.size A7 (0 + 1) c7 ([] ++ [91])) := hown7
  clear hb7 hown7 hln hlm
  go_loopw [11, 12] (fun v q wr => ∃ (i : Nat) (A3 : Option Addr) (c3 : Nat), i ≤ n ∧ q = .int .i64 i ∧ v = .slice A3 (i + 1) c3 ∧ Hid (Own wr W.heap.size A3 (i + 1) c3 (91 :: txt f 0 i) ∧ Below W.heap.size W wr)) (fun _ q _ => n - (RowKit.intOf q).toNat)
  case atStart => exact ⟨0, _, _, by omega, rfl, rfl, HO7.out, HB7.out⟩
  case round =>
    obtain ⟨i, A3, c3, hin, rfl, rfl, HX⟩ := hrel
    clear HO7 HB7
    by_cases hlt : i < n
    · obtain ⟨b, o, rfl, hbw, hc⟩ := (HC.out.a.below HX.out.2 HC.out.below.size).cells i hlt
      have hlt' : (i : Int) < (n : Int) := by omega
      go_wp2_with (first
        | (at_builtin; refine app_one rfl rfl _ _ rfl rfl rfl HX.out.1 (by omega) HX.out.2.size ?_; intro A4 c4 w8 hown8 hb8; go_frame)
        | go_in)
      go_roundw
      case rel =>
        exact ⟨i + 1, A4, c4, by omega, by go_num, rfl, by rw [txt_succ, Nat.zero_add]; exact hown8, HX.out.2.trans hb8⟩
      case measure => simp [RowKit.intOf]; omega
    · have hin' : n = i := by omega
      subst hin'
      go_wp2_with (first
        | (at_builtin; refine app_one (s := 44) (by decide) rfl _ _ rfl rfl rfl HX.out.1 (by omega) HX.out.2.size ?_; intro A4 c4 w8 hown8 hb8; go_frame)
        | go_in)
      have HB8 : Hid (Below W.heap.size W w8) := HX.out.2.trans hb8
      have HO8 : Hid (Own w8 W.heap.size A4 (n + 1 + 1) c4 (91 :: txt f 0 n ++ [44])) := hown8
      clear hb8 hown8 HX hlt hin
      go_loopw [11, 13] (fun v q wr => ∃ (i : Nat) (A3 : Option Addr) (c3 : Nat), i ≤ m ∧ q = .int .i64 i ∧ v = .slice A3 (n + 2 + i) c3 ∧ Hid (Own wr W.heap.size A3 (n + 2 + i) c3 (91 :: txt f 0 n ++ [44] ++ txt g 0 i) ∧ Below W.heap.size W wr)) (fun _ q _ => m - (RowKit.intOf q).toNat)
      case atStart => exact ⟨0, _, _, by omega, rfl, rfl, by simpa [txt] using HO8.out, HB8.out⟩
      case round =>
        obtain ⟨i, A3, c3, hin, rfl, rfl, HX⟩ := hrel
        clear HO8 HB8
        by_cases hlt : i < m
        · obtain ⟨b, o, rfl, hbw, hc⟩ := (HC.out.b.below HX.out.2 HC.out.below.size).cells i hlt
          have hlt' : (i : Int) < (m : Int) := by omega
          go_wp2_with (first
            | (at_builtin; refine app_one rfl rfl _ _ rfl rfl rfl HX.out.1 (by omega) HX.out.2.size ?_; intro A4 c4 w8 hown8 hb8; go_frame)
            | go_in)
          go_roundw
          case rel =>
            exact ⟨i + 1, A4, c4, by omega, by go_num, rfl, by rw [txt_succ, Nat.zero_add, ← List.append_assoc]; exact hown8, HX.out.2.trans hb8⟩
          case measure => simp [RowKit.intOf]; omega
        · have hin' : m = i := by omega
          subst hin'
          go_wp2_with (first
            | (at_builtin; refine app_one (s := 93) (by decide) rfl _ _ rfl rfl rfl HX.out.1 (by omega) HX.out.2.size ?_; intro A4 c4 w8 hown8 hb8; go_frame)
            | fail)
          have HB8 : Hid (Below W.heap.size W w8) := HX.out.2.trans hb8
          have HO8 : Hid (Own w8 W.heap.size A4 (n + 2 + m + 1) c4 (91 :: txt f 0 n ++ [44] ++ txt g 0 m ++ [93])) := hown8
          clear hb8 hown8 HX hlt hin
          have HD3 := new3_here A4 c4 n m
          have HD1 := new1_here
          go_wp2_with (first
            | (go_at_call 15; refine (HD3.out _ _).mono ?_)
            | fail)
          rintro r w9 ⟨hb9, d1, rfl, hd1⟩
          have hv1 := Vat.new (i := 1) hd1
          have hb0 := (HB8.out.trans (hb9.mono HB8.out.size)).alloc (HB8.out.trans (hb9.mono HB8.out.size)).size (.cells #[.pointer (some ⟨d1, 0, none⟩), .int .i32 1] 28)
          have hl1 : Below w8.heap.size w8 (w9.alloc (.cells #[.pointer (some ⟨d1, 0, none⟩), .int .i32 1] 28)) := hb9.alloc hb9.size _
          have HL : Hid (Below W.heap.size W (w9.alloc (.cells #[.pointer (some ⟨d1, 0, none⟩), .int .i32 1] 28)) ∧ Below w8.heap.size w8 (w9.alloc (.cells #[.pointer (some ⟨d1, 0, none⟩), .int .i32 1] 28)) ∧ Vat (w9.alloc (.cells #[.pointer (some ⟨d1, 0, none⟩), .int .i32 1] 28)) w9.heap.size d1 1 (.slice A4 (n + 2 + m + 1) c4) 3 K3 (S3 n) (E3 n m) X3) := ⟨hb0, hl1, hv1⟩
          clear hb9 hd1 hv1 hb0 hl1
          go_wp2_with (first
            | (go_at_call 15; refine (HD3.out _ _).mono ?_)
            | fail)
          rintro r w11 ⟨hb11, d2, rfl, hd2⟩
          have hb' : Below _ _ (w11.alloc (.cells #[.pointer (some ⟨d2, 0, none⟩), .int .i32 2] 28)) := hb11.alloc hb11.size _
          have HL2 : Hid (Below W.heap.size W (w11.alloc (.cells #[.pointer (some ⟨d2, 0, none⟩), .int .i32 2] 28)) ∧ Below w8.heap.size w8 (w11.alloc (.cells #[.pointer (some ⟨d2, 0, none⟩), .int .i32 2] 28)) ∧ Vat (w11.alloc (.cells #[.pointer (some ⟨d2, 0, none⟩), .int .i32 2] 28)) w9.heap.size d1 1 (.slice A4 (n + 2 + m + 1) c4) 3 K3 (S3 n) (E3 n m) X3 ∧ Vat (w11.alloc (.cells #[.pointer (some ⟨d2, 0, none⟩), .int .i32 2] 28)) w11.heap.size d2 2 (.slice A4 (n + 2 + m + 1) c4) 3 K3 (S3 n) (E3 n m) X3) :=
            ⟨HL.out.1.trans (hb'.mono HL.out.1.size), HL.out.2.1.trans (hb'.mono HL.out.2.1.size), HL.out.2.2.below hb', Vat.new hd2⟩
          clear hb11 hb' hd2 HL
          go_wp2_with (first
            | (go_at_call 8; refine (HD1.out _ _ _ _).mono ?_)
            | fail)
          rintro r w13 ⟨hb13, d3, rfl, hd3⟩
          have hb' : Below _ _ (w13.alloc (.cells #[.pointer (some ⟨d3, 0, none⟩), .int .i32 0] 28)) := hb13.alloc hb13.size _
          have HL3 : Hid (Below W.heap.size W (w13.alloc (.cells #[.pointer (some ⟨d3, 0, none⟩), .int .i32 0] 28)) ∧ Below w8.heap.size w8 (w13.alloc (.cells #[.pointer (some ⟨d3, 0, none⟩), .int .i32 0] 28)) ∧ Vat (w13.alloc (.cells #[.pointer (some ⟨d3, 0, none⟩), .int .i32 0] 28)) w9.heap.size d1 1 (.slice A4 (n + 2 + m + 1) c4) 3 K3 (S3 n) (E3 n m) X3 ∧ Vat (w13.alloc (.cells #[.pointer (some ⟨d3, 0, none⟩), .int .i32 0] 28)) w11.heap.size d2 2 (.slice A4 (n + 2 + m + 1) c4) 3 K3 (S3 n) (E3 n m) X3 ∧ Vat (w13.alloc (.cells #[.pointer (some ⟨d3, 0, none⟩), .int .i32 0] 28)) w13.heap.size d3 0 (.slice G1 n cg1) 1 (fun _ => 4) (fun _ => 0) (fun _ => (n : Int)) (fun _ => 1)) :=
            ⟨HL2.out.1.trans (hb'.mono HL2.out.1.size), HL2.out.2.1.trans (hb'.mono HL2.out.2.1.size), HL2.out.2.2.1.below hb', HL2.out.2.2.2.below hb', Vat.new hd3⟩
          clear hb13 hb' hd3 HL2
          go_wp2_with (first
            | (go_at_call 8; refine (HD1.out _ _ _ _).mono ?_)
            | fail)
          rintro r w15 ⟨hb15, d4, rfl, hd4⟩
          have hb' : Below _ _ (w15.alloc (.cells #[.pointer (some ⟨d4, 0, none⟩), .int .i32 0] 28)) := hb15.alloc hb15.size _
          have HF : Hid (Four w (w15.alloc (.cells #[.pointer (some ⟨d4, 0, none⟩), .int .i32 0] 28)) n m f g M1 M2 G1 G2 A4 c4 cg1 cg2 w9.heap.size w11.heap.size w13.heap.size w15.heap.size d1 d2 d3 d4) := by
            have q1 := HL3.out.1.trans (hb'.mono HL3.out.1.size)
            have q2 := HL3.out.2.1.trans (hb'.mono HL3.out.2.1.size)
            have hC := HC.out
            refine ⟨hC.below.trans (q1.mono hC.below.size), (hC.m1.below q1 (Nat.le_refl _)).mono q1.size, (hC.m2.below q1 (Nat.le_refl _)).mono q1.size, (hC.g1.below q1 (Nat.le_refl _)).mono q1.size, (hC.g2.below q1 (Nat.le_refl _)).mono q1.size, ?_, ?_, HL3.out.2.2.1.below hb', HL3.out.2.2.2.1.below hb', HL3.out.2.2.2.2.below hb', Vat.new hd4⟩
            · refine ((elem_of HO8.out (by omega) 1 n f (by omega) fun j hj => ?_).below q2 (Nat.le_refl _)).mono q2.size
              exact text_a f g n m j hj
            · refine ((elem_of HO8.out (by omega) (2 + n) m g (by omega) fun j hj => ?_).below q2 (Nat.le_refl _)).mono q2.size
              exact text_b f g n m j hj
          have HCT : Hid (n + 2 + m + 1 ≤ c4) := HO8.out.cap
          clear hb15 hb' hd4 HL3 HO8 HB8 HD1 HD3 HC
          have p0 := HF.out.v1.c0
          have p1 := HF.out.v1.c1
          go_wp2_with (first
            | (go_at_call 9; refine (HF.out.int1 HE.out h2 HN.out hn5 HCT.out).mono ?_)
            | fail)
          rintro r w17 ⟨ha, hb17⟩
          obtain ⟨v1, e1, rfl, HR1⟩ := ha.res
          replace HF := Four.afterH HF hb17
          have p0 := HF.out.v2.c0
          have p1 := HF.out.v2.c1
          clear ha hb17
          go_wp2_with (first
            | (go_at_call 9; refine (HF.out.int2 HE.out h2 HM.out hm5 HCT.out).mono ?_)
            | fail)
          rintro r w18 ⟨ha, hb18⟩
          obtain ⟨v2, e2, rfl, HR2⟩ := ha.res
          replace HF := Four.afterH HF hb18
          have p0 := HF.out.v3.c0
          have p1 := HF.out.v3.c1
          clear ha hb18
          go_wp2_with (first
            | (go_at_call 9; refine (HF.out.int3 HE.out h2 HN.out hn5 hcg1).mono ?_)
            | fail)
          rintro r w19 ⟨ha, hb19⟩
          obtain ⟨v3, e3, rfl, HR3⟩ := ha.res
          replace HF := Four.afterH HF hb19
          have p0 := HF.out.v4.c0
          have p1 := HF.out.v4.c1
          clear ha hb19
          go_wp2_with (first
            | (go_at_call 9; refine (HF.out.int4 HE.out h2 HM.out hm5 hcg2).mono ?_)
            | fail)
          rintro r w20 ⟨ha, hb20⟩
          obtain ⟨v4, e4, rfl, HR4⟩ := ha.res
          replace HF := Four.afterH HF hb20
          clear ha hb20
          go_wp2
          have HB20 : Hid (Below w.heap.size w w20) := HF.out.below
          have HX1 : Hid (∀ W, Below w20.heap.size w20 W → Calls Tryd.prog 16 #[.slice M1 n cm1, .int .i64 v1, .bool (isNil e1)] W fun e w' => e = .returned (.bool true) ∧ Below W.heap.size W w') := fun W hW => fixed_of HR1.out HN.out HF.out.m1 _ rfl W hW
          have HX2 : Hid (∀ W, Below w20.heap.size w20 W → Calls Tryd.prog 16 #[.slice M2 m cm2, .int .i64 v2, .bool (isNil e2)] W fun e w' => e = .returned (.bool true) ∧ Below W.heap.size W w') := fun W hW => fixed_of HR2.out HM.out HF.out.m2 _ rfl W hW
          have hr1 := HR1.out.same HR3.out
          have hr2 := HR2.out.same HR4.out
          clear HF HCT HR1 HR2 HR3 HR4 HE HS HS2 HN HM
          obtain ⟨rfl, hr1⟩ := hr1
          obtain ⟨rfl, hr2⟩ := hr2
          have hv1 : (v3 == v3) = true := by simp
          have hv2 : (v4 == v4) = true := by simp
          clear p0 p1
          rcases hr1 with ⟨rfl, rfl⟩ | ⟨t, p, t', p', rfl, rfl⟩
          · rw [show isNil .nilIface = true from rfl] at HX1
            rcases hr2 with ⟨rfl, rfl⟩ | ⟨t2, q, t2', q', rfl, rfl⟩
            · rw [show isNil .nilIface = true from rfl] at HX2
              refine wp_region_upto (by kernel_rfl) (by kernel_rfl) ?_
              repeat (go_big_quiet_step (first
                | with_reducible rfl
                | (intro hW; with_reducible rfl)
                | (intro hW; go_at_call_of 16 M1; refine (HX1.out _ hW.out).mono ?_; rintro e w21 ⟨rfl, hb21⟩; exact ⟨rfl, hW.on hb21⟩)
                | (intro hW; go_at_call_of 16 M2; refine (HX2.out _ hW.out).mono ?_; rintro e w21 ⟨rfl, hb21⟩; exact ⟨rfl, hW.on hb21⟩)))
              refine wpQuiet_nil ?_
              intro w21 hw21
              have hbe := HB20.out.trans (hw21.out.mono HB20.out.size)
              clear HX1 HX2 HB20 hw21
              go_wp2
              go_ret
              exact ⟨rfl, hbe⟩
            · rw [show isNil (.iface t2 (.pointer (some q))) = false from rfl] at HX2
              refine wp_region_upto (by kernel_rfl) (by kernel_rfl) ?_
              repeat (go_big_quiet_step (first
                | with_reducible rfl
                | (intro hW; with_reducible rfl)
                | (intro hW; go_at_call_of 16 M1; refine (HX1.out _ hW.out).mono ?_; rintro e w21 ⟨rfl, hb21⟩; exact ⟨rfl, hW.on hb21⟩)
                | (intro hW; go_at_call_of 16 M2; refine (HX2.out _ hW.out).mono ?_; rintro e w21 ⟨rfl, hb21⟩; exact ⟨rfl, hW.on hb21⟩)))
              refine wpQuiet_nil ?_
              intro w21 hw21
              have hbe := HB20.out.trans (hw21.out.mono HB20.out.size)
              clear HX1 HX2 HB20 hw21
              go_wp2
              go_ret
              exact ⟨rfl, hbe⟩
          · rw [show isNil (.iface t (.pointer (some p))) = false from rfl] at HX1
            rcases hr2 with ⟨rfl, rfl⟩ | ⟨t2, q, t2', q', rfl, rfl⟩
            · rw [show isNil .nilIface = true from rfl] at HX2
              refine wp_region_upto (by kernel_rfl) (by kernel_rfl) ?_
              repeat (go_big_quiet_step (first
                | with_reducible rfl
                | (intro hW; with_reducible rfl)
                | (intro hW; go_at_call_of 16 M1; refine (HX1.out _ hW.out).mono ?_; rintro e w21 ⟨rfl, hb21⟩; exact ⟨rfl, hW.on hb21⟩)
                | (intro hW; go_at_call_of 16 M2; refine (HX2.out _ hW.out).mono ?_; rintro e w21 ⟨rfl, hb21⟩; exact ⟨rfl, hW.on hb21⟩)))
              refine wpQuiet_nil ?_
              intro w21 hw21
              have hbe := HB20.out.trans (hw21.out.mono HB20.out.size)
              clear HX1 HX2 HB20 hw21
              go_wp2
              go_ret
              exact ⟨rfl, hbe⟩
            · rw [show isNil (.iface t2 (.pointer (some q))) = false from rfl] at HX2
              refine wp_region_upto (by kernel_rfl) (by kernel_rfl) ?_
              repeat (go_big_quiet_step (first
                | with_reducible rfl
                | (intro hW; with_reducible rfl)
                | (intro hW; go_at_call_of 16 M1; refine (HX1.out _ hW.out).mono ?_; rintro e w21 ⟨rfl, hb21⟩; exact ⟨rfl, hW.on hb21⟩)
                | (intro hW; go_at_call_of 16 M2; refine (HX2.out _ hW.out).mono ?_; rintro e w21 ⟨rfl, hb21⟩; exact ⟨rfl, hW.on hb21⟩)))
              refine wpQuiet_nil ?_
              intro w21 hw21
              have hbe := HB20.out.trans (hw21.out.mono HB20.out.size)
              clear HX1 HX2 HB20 hw21
              go_wp2
              go_ret
              exact ⟨rfl, hbe⟩
end Go.Proofs.Qxb6628404aDoor
