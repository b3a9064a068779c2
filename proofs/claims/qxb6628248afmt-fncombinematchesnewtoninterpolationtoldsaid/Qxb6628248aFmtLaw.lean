/-
  THE LAW (function 3), over an abstract map: what len, the look-up and Combine do to it.
-/
import Derived.Test.Qxb6628248aFmtArr
import Derived.Test.Qxb6628248aFmtTail
namespace Go.Proofs.Qxb6628248aFmt
open Go.RowKit Go.Maps Go.Sort
open Go.Extern.Stop Go.Stop Go.Extern
open Gf

theorem wrap_small (x : Int) (h0 : 0 ≤ x) (h1 : x < 65536) : IntKind.i64.wrap x = x := by
  simp [IntKind.wrap, IntKind.bits, IntKind.signed]
  omega
set_option maxRecDepth 100000 in
set_option maxHeartbeats 2000000 in
theorem law_any (mv : Value) (M : Nat) (has : Int → Bool) (sa : Int → Option Addr) (ln sc : Int → Nat) (byt : Int → Nat → UInt8) (w : World) (hM : M ≤ 4611686018427387904)
    (hI : MapI w mv M has sa ln sc byt)
    (hbadC : ¬ 65536 < M → ∀ wr, Below w.heap.size w wr → ¬ (M ≠ 0 ∧ (st has ln 255).1.length = M ∧ (st has ln 255).2.2 = true) → Calls Tryf.prog 7 #[mv] wr fun e w' => Below wr.heap.size wr w' ∧ ∃ t p, e = .returned (.tuple #[.slice none 0 0, .iface t p]))
    (hgoodC : ¬ 65536 < M → ∀ wr (L : Nat), Below w.heap.size w wr → M ≠ 0 → (st has ln 255).1.length = M → (st has ln 255).2.2 = true → (st has ln 255).2.1 = (L : Int) → L ≤ 1048576 → Calls Tryf.prog 7 #[mv] wr fun e w' => Below wr.heap.size wr w' ∧
      ∃ g cap, e = .returned (.tuple #[.slice (some ⟨g, 0, none⟩) L cap, .nilIface]) ∧
        ∀ j, j < L → w'.cell? ⟨g, j, none⟩ = some (.int .u8 ((sumK (fun i => UInt8.ofNat ((st has ln 255).1.getD i 0)) (fun i => byt ((st has ln 255).1.getD i 0 : Nat) j) (st has ln 255).1.length (st has ln 255).1.length).toNat : Int))) :
    Calls Tryf.prog 3 #[mv] w fun e w' => e = .returned (.bool true) ∧ Below w.heap.size w w' := by
  have hlen0 := hI.len w (Below.refl _ _)
  by_cases hbig : 65536 < M
  · go_enter Tryf.func3, Tryf.ntmps3
    go_wp2
    go_ret
    exact ⟨rfl, Below.refl _ _⟩
  go_enter Tryf.func3, Tryf.ntmps3
  go_wp2
  go_loop [3, 4] (fun t x => ∃ (k s : Nat), k ≤ 255 ∧ x = .int .i64 ((k : Int) + 1) ∧ t = .int .i64 s ∧ s ≤ 1048576 ∧ ∀ y : Nat, 1 ≤ y → y ≤ k → has y = true → ln y ≤ s) (fun _ x => 256 - (intOf x).toNat)
  case atStart => exact ⟨0, 0, by omega, rfl, rfl, by omega, fun y h1 h2 => by omega⟩
  case round =>
    obtain ⟨k, s, hk, rfl, rfl, hs, hy⟩ := hrel
    have HY : Hid (∀ y : Nat, 1 ≤ y → y ≤ k → has y = true → ln y ≤ s) := hy
    clear hy
    by_cases hk2 : k < 255
    · have hl := hI.look w (Below.refl _ _) ((k : Int) + 1) (WalkArith.wf_i64 (by omega))
      have hb := hI.big ((k : Int) + 1)
      by_cases hh : has ((k : Int) + 1) = true
      · rw [hh] at hl
        by_cases hlt : 1048576 < s + ln ((k : Int) + 1)
        · go_wp2
          go_ret
          exact ⟨rfl, Below.refl _ _⟩
        · go_wp2
          go_round
          case rel =>
            refine ⟨k + 1, s + ln ((k : Int) + 1), by omega, by go_num, by go_num, by omega, fun y h1 h2 h3 => ?_⟩
            by_cases hyk : y = k + 1
            · subst hyk
              have : ((k + 1 : Nat) : Int) = (k : Int) + 1 := by omega
              rw [this]; omega
            · have := HY.out y h1 (by omega) h3; omega
          case measure => simp [intOf]; omega
      · rw [Bool.not_eq_true] at hh
        rw [hh] at hl
        go_wp2
        go_round
        case rel =>
          refine ⟨k + 1, s, by omega, by go_num, rfl, by omega, fun y h1 h2 h3 => ?_⟩
          by_cases hyk : y = k + 1
          · subst hyk
            have e : ((k + 1 : Nat) : Int) = (k : Int) + 1 := by omega
            rw [e, hh] at h3
            cases h3
          · exact HY.out y h1 (by omega) h3
        case measure => simp [intOf]; omega
    · -- behind the first loop
      have hk255 : k = 255 := by omega
      subst hk255
      go_wp2_with (first
        | refine wpList_alloc_row rfl 25 rfl z25 zero25 ?_
        | refine wpList_alloc_row rfl 26 rfl z26 zero26 ?_)
      go_loopw [9, 10, 11, 12] (fun nv sv bv xv wr => ∃ k : Nat, k ≤ 255 ∧ xv = .int .i64 ((k : Int) + 1) ∧ nv = .int .i64 ((st has ln k).1.length : Int) ∧ sv = .int .i64 (st has ln k).2.1 ∧ bv = .bool (st has ln k).2.2 ∧ XsAt wr w.heap.size (st has ln k).1 ∧ RowsAt wr (w.heap.size + 1) sa ln sc (st has ln k).1 ∧ wr.heap.size = w.heap.size + 2 ∧ Below w.heap.size w wr) (fun _ _ _ xv _ => 256 - (intOf xv).toNat)
      case atStart =>
        exact ⟨0, by omega, rfl, rfl, rfl, rfl, ⟨z25, heap_alloc2_old _ _ _, z25_size, fun i hi => by cases hi⟩, ⟨z26, heap_alloc2_new _ _ _, z26_size, fun i hi => by cases hi⟩, by simp, ((Below.refl _ _).alloc (Nat.le_refl _) _).alloc (by simp) _⟩
      case round =>
        obtain ⟨k, hk, rfl, rfl, rfl, rfl, hX, hR, hws, hb⟩ := hrel
        by_cases hk2 : k < 255
        · have hl := hI.look wr hb ((k : Int) + 1) (WalkArith.wf_i64 (by omega))
          have hbg := hI.big ((k : Int) + 1)
          have hsl := st_len has ln k
          have hsz := st_sz has ln hI.big k
          have HST : Hid (st has ln (k + 1) = if has ((k + 1 : Nat) : Int) then ((st has ln k).1 ++ [k + 1], (ln ((k + 1 : Nat) : Int) : Int), if 0 ≤ (st has ln k).2.1 ∧ (ln ((k + 1 : Nat) : Int) : Int) ≠ (st has ln k).2.1 then false else (st has ln k).2.2) else st has ln k) := by rw [Hid, st]
          have ek : ((k + 1 : Nat) : Int) = (k : Int) + 1 := by omega
          rw [ek] at HST
          clear ek
          generalize st has ln k = S at *
          obtain ⟨l, sz, sm⟩ := S
          simp only at hX hR hsl hsz HST ⊢
          by_cases hh : has ((k : Int) + 1) = true
          · rw [hh] at hl
            obtain ⟨vx, cx⟩ := hX.room l.length (by omega)
            obtain ⟨vr, cr⟩ := hR.room l.length (by omega)
            have fx := hX.frozen l.length
            have fr := hR.frozen l.length
            have HH : Hid (has ((k : Int) + 1) = true) := hh
            clear hh
            by_cases hd : 0 ≤ sz ∧ (ln ((k : Int) + 1) : Int) ≠ sz
            · have HDD : Hid (0 ≤ sz ∧ (ln ((k : Int) + 1) : Int) ≠ sz) := hd
              obtain ⟨hd1, hd2⟩ := hd
              have hd3 : ((ln ((k : Int) + 1) : Int) != sz) = true := by rw [bne_iff_ne]; exact hd2
              have hd4 : decide (0 ≤ sz) = true := decide_eq_true hd1
              clear hd2
              go_wp2
              go_roundw
              case rel =>
                have hst := HST.out
                rw [if_pos HH.out] at hst
                refine ⟨k + 1, by omega, by go_num, ?_, ?_, ?_, ?_, ?_, by simpa using hws, (hb.setCell (by simp) _).setCell (by simp) _⟩
                · rw [hst]; simp
                · rw [hst]
                · rw [hst, if_pos HDD.out]
                · rw [hst]
                  exact (hX.snoc1 k (by omega)).other (by simp) _
                · rw [hst]
                  exact (hR.other (by simp) _).snoc1 k (by omega)
              case measure => simp [intOf]; omega
            · have HDD : Hid (¬ (0 ≤ sz ∧ (ln ((k : Int) + 1) : Int) ≠ sz)) := hd
              by_cases hd1 : 0 ≤ sz
              · have hd3 : ((ln ((k : Int) + 1) : Int) != sz) = false := by
                  have : (ln ((k : Int) + 1) : Int) = sz := by omega
                  simp [this]
                have hd4 : decide (0 ≤ sz) = true := decide_eq_true hd1
                clear hd
                go_wp2
                go_roundw
                case rel =>
                  have hst := HST.out
                  rw [if_pos HH.out] at hst
                  refine ⟨k + 1, by omega, by go_num, ?_, ?_, ?_, ?_, ?_, by simpa using hws, (hb.setCell (by simp) _).setCell (by simp) _⟩
                  · rw [hst]; simp
                  · rw [hst]
                  · rw [hst, if_neg HDD.out]
                  · rw [hst]
                    exact (hX.snoc1 k (by omega)).other (by simp) _
                  · rw [hst]
                    exact (hR.other (by simp) _).snoc1 k (by omega)
                case measure => simp [intOf]; omega
              · have hd4 : decide (0 ≤ sz) = false := decide_eq_false hd1
                clear hd
                go_wp2
                go_roundw
                case rel =>
                  have hst := HST.out
                  rw [if_pos HH.out] at hst
                  refine ⟨k + 1, by omega, by go_num, ?_, ?_, ?_, ?_, ?_, by simpa using hws, (hb.setCell (by simp) _).setCell (by simp) _⟩
                  · rw [hst]; simp
                  · rw [hst]
                  · rw [hst, if_neg HDD.out]
                  · rw [hst]
                    exact (hX.snoc1 k (by omega)).other (by simp) _
                  · rw [hst]
                    exact (hR.other (by simp) _).snoc1 k (by omega)
                case measure => simp [intOf]; omega
          · rw [Bool.not_eq_true] at hh
            rw [hh] at hl
            have HH : Hid (¬ has ((k : Int) + 1) = true) := by rw [Hid, hh]; simp
            clear hh
            go_wp2
            go_roundw
            case rel =>
              have hst := HST.out
              rw [if_neg HH.out] at hst
              refine ⟨k + 1, by omega, by go_num, ?_, ?_, ?_, ?_, ?_, hws, hb⟩
              · rw [hst]
              · rw [hst]
              · rw [hst]
              · rw [hst]; exact hX
              · rw [hst]; exact hR
            case measure => simp [intOf]; omega
        · -- behind the second loop
          have hk255 : k = 255 := by omega
          subst hk255
          have hlenr := hI.len wr hb
          have hbc := hbadC hbig wr hb
          have hgoodC := hgoodC hbig
          have HY2 : Hid (∀ y : Nat, 1 ≤ y → y ≤ 255 → has y = true → ln y ≤ 1048576) := fun y h1 h2 h3 => by have := HY.out y h1 h2 h3; omega
          have hsl := st_len has ln 255
          have hsz := st_sz has ln hI.big 255
          have hmem := st_mem has ln 255
          have hsrt := st_sorted has ln 255
          have hlens := st_lens has ln 255
          clear hbadC HY
          generalize st has ln 255 = S at *
          obtain ⟨l, sz, sm⟩ := S
          simp only at hX hR hsl hsz hbc hgoodC hmem hsrt hlens ⊢
          have hsn := fun (w : World) => Lib.run_eql_slice_nil (P := Tryf.prog) w 23 5 none 0 0 0 0 Tryf.underlying23
          have hM2 : (M : Int) ≤ 65536 := by omega
          by_cases hg : M ≠ 0 ∧ l.length = M ∧ sm = true
          · obtain ⟨hM1, hlM, rfl⟩ := hg
            have hne : l ≠ [] := fun e => by rw [e] at hlM; simp at hlM; omega
            obtain ⟨y0, hy0, e0⟩ := hlens.2.1 hne
            have hall : ∀ y ∈ l, ln (y : Nat) = ln (y0 : Nat) := fun y hy => by have := hlens.2.2.1 rfl y hy; omega
            have hL20 : ln (y0 : Nat) ≤ 1048576 := by
              obtain ⟨⟨h1, h2⟩, h3⟩ := (hmem y0).1 hy0
              exact HY2.out y0 h1 h2 h3
            have hgt : ∀ i, i < l.length → l.getD i 0 ∈ l := fun i hi => by rw [getD_here hi]; exact List.getElem_mem hi
            obtain ⟨L, hL⟩ : ∃ L, L = ln (y0 : Nat) := ⟨_, rfl⟩
            rw [← hL] at e0 hall hL20
            clear hL
            subst e0
            obtain ⟨X, hXd⟩ : ∃ X : Nat → UInt8, ∀ i, X i = UInt8.ofNat (l.getD i 0) := ⟨_, fun _ => rfl⟩
            obtain ⟨Y, hYd⟩ : ∃ Y : Nat → Nat → UInt8, ∀ j i, Y j i = byt (l.getD i 0 : Nat) j := ⟨_, fun _ _ => rfl⟩
            have HXd : Hid (∀ i, i < l.length → ∀ j, j < l.length → i ≠ j → X i ≠ X j) := fun i hi j hj hij e => by
              rw [hXd, hXd] at e
              have h1 := (hmem _).1 (hgt i hi)
              have h2 := (hmem _).1 (hgt j hj)
              refine ofNat_ne (by omega) (by omega) (fun e2 => hij ?_) e
              rw [getD_here hi, getD_here hj] at e2
              have hp := List.pairwise_iff_getElem.1 hsrt
              rcases Nat.lt_trichotomy i j with h | h | h
              · have := hp i j hi hj h; omega
              · exact h
              · have := hp j i hj hi h; omega
            have HXc : Hid (∀ i, i < l.length → wr.cell? ⟨w.heap.size, i, none⟩ = some (.int .u8 ((X i).toNat : Int))) := fun i hi => by
              have h1 := (hmem _).1 (hgt i hi)
              rw [hX.cell i hi, hXd, UInt8.toNat_ofNat_of_lt' (by show l.getD i 0 < 256; omega)]
            have HRc : Hid (∀ i, i < l.length → ∀ j, j < L → ∃ c o cap, wr.cell? ⟨w.heap.size + 1, i, none⟩ = some (.slice (some ⟨c, o, none⟩) L cap) ∧ c < w.heap.size ∧ w.cell? ⟨c, o + j, none⟩ = some (.int .u8 ((Y j i).toNat : Int))) := fun i hi j hj => by
              have h1 := hgt i hi
              have h2 := hall _ h1
              obtain ⟨c, o, h3, h4, h5⟩ := hI.cells (l.getD i 0 : Nat) j ((hmem _).1 h1).2 (by omega)
              refine ⟨c, o, sc (l.getD i 0 : Nat), ?_, h4, ?_⟩
              · rw [hR.cell i hi, h3, h2]
              · rw [h5, hYd]
            have hn1 : 1 ≤ l.length := by omega
            have hgc' : ∀ wq, Below w.heap.size w wq → Calls Tryf.prog 7 #[mv] wq fun e w' => Below wq.heap.size wq w' ∧ ∃ g cap, e = .returned (.tuple #[.slice (some ⟨g, 0, none⟩) L cap, .nilIface]) ∧ ∀ j, j < L → w'.cell? ⟨g, j, none⟩ = some (.int .u8 ((horner (fun i => (X i, Y j i)) l.length (l.length - 1)).toNat : Int)) := fun wq hwq => by
              refine (hgoodC wq L hwq hM1 hlM rfl rfl hL20).mono ?_
              rintro e w' ⟨h1, g, cap, h2, h3⟩
              refine ⟨h1, g, cap, h2, fun j hj => ?_⟩
              have hnl := newton_is_lagrange (fun i => (X i, Y j i)) l.length hn1 (fun a b ha hb hab => HXd.out a ha b hb hab)
              rw [h3 j hj, hnl, lag_sumK]
              have eX : X = fun i => UInt8.ofNat (l.getD i 0) := funext hXd
              have eY : Y j = fun i => byt (l.getD i 0 : Nat) j := funext (hYd j)
              rw [eX]
              show _ = some (Value.int .u8 ((sumK (fun i => UInt8.ofNat (l.getD i 0)) (Y j) l.length l.length).toNat : Int))
              rw [eY]
            have HGC := Hid.mk hgc'
            have hd1 : ((M : Int) == 0) = false := beq_eq_false_iff_ne.2 (by omega)
            have hd2 : ((l.length : Int) != (M : Int)) = false := by rw [hlM]; simp
            have hws2 : w.heap.size + 2 ≤ wr.heap.size := by omega
            clear hX hR hgoodC hgc' hbc hmem hsrt hlens hall hgt hXd hYd hlM hws hy0 hne
            obtain ⟨i0, hi, hz0, hz1, hz2⟩ := info_parts info5
            go_wp2_with (first
              | (go_at_call 4; refine (gfNew_any _).mono ?_; rintro e w1 ⟨cs, rfl, hcsz, hcs, hw1s, hb1⟩)
              | refine wpList_alloc_row rfl 30 rfl z30 zero30 ?_
              | refine wpList_store_row rfl 30 _ _ rfl w1.heap.size cs rfl rfl 30 z30 (heap_alloc_new _ _) (by rw [hcsz]; kernel_rfl) (by rw [hcsz]; exact z30_size) (tab_all hcsz hcs) ?_
              | (at_make; refine wpList_make_full _ rfl _ _ 23 rfl w.heap.size 5 i0 (.int .u8 0) 1 Tryf.underlying23 hi hz0 hz1 _ _ _ _ L rfl rfl rfl rfl (by rw [hz2]; omega) (by unfold maxLen; omega) (by have := hb.size; have := hb1.size; simp; omega) ?_; intro w2 hrow2 hg2)
              | refine wpList_alloc_row rfl 25 rfl z25 zero25 ?_)
            obtain ⟨hwr, hT0, hW0, hwd⟩ := after_make hw1s hb1 hcs hg2 hrow2
            have hbW : Below w.heap.size w (w2.alloc (.cells z25 25)) := hb.trans (hwr.mono (by omega))
            have HT : Hid (TabAt (w2.alloc (.cells z25 25)) (wr.heap.size + 2)) := hT0
            have HX0 : Hid (∀ i, i < l.length → (w2.alloc (.cells z25 25)).cell? ⟨w.heap.size, i, none⟩ = some (.int .u8 ((X i).toNat : Int))) := fun i hi => by rw [hwr.cell (show w.heap.size < wr.heap.size by omega)]; exact HXc.out i hi
            have HR0 : Hid (∀ i, i < l.length → ∀ j, j < L → ∃ c o cap, (w2.alloc (.cells z25 25)).cell? ⟨w.heap.size + 1, i, none⟩ = some (.slice (some ⟨c, o, none⟩) L cap) ∧ c < w.heap.size ∧ (w2.alloc (.cells z25 25)).cell? ⟨c, o + j, none⟩ = some (.int .u8 ((Y j i).toNat : Int))) := fun i hi j hj => by
              obtain ⟨c, o, cap, h1, h2, h3⟩ := HRc.out i hi j hj
              exact ⟨c, o, cap, by rw [hwr.cell (show w.heap.size + 1 < wr.heap.size by omega)]; exact h1, h2, by rw [hbW.cell h2]; exact h3⟩
            have HW0 : Hid (∃ cw : Array Value, (w2.alloc (.cells z25 25)).heap[wr.heap.size + 2 + 1]? = some (.cells cw 5 (0, 0)) ∧ cw.size = L) := hW0
            have HD0 : Hid (∃ cd : Array Value, (w2.alloc (.cells z25 25)).heap[w2.heap.size]? = some (.cells cd 25 (0, 0)) ∧ cd.size = 255) := ⟨z25, heap_alloc_new _ _, z25_size⟩
            have hbwx : w.heap.size + 1 < wr.heap.size + 2 := by omega
            generalize w2.alloc (.cells z25 25) = W0 at *
            generalize w2.heap.size = bd at *
            generalize wr.heap.size + 2 = bf at *
            clear hrow2 hg2 hb1 hw1s hcs hcsz HXc HRc hb hlenr hws2 hT0 hW0 hwr
            go_loopw [19] (fun q wq => ∃ (j : Nat) (cw cd : Array Value), j ≤ L ∧ q = .int .i64 j ∧ wq.heap[bf + 1]? = some (.cells cw 5 (0, 0)) ∧ cw.size = L ∧ (∀ t, t < j → cw[t]? = some (.int .u8 ((horner (fun i => (X i, Y t i)) l.length (l.length - 1)).toNat : Int))) ∧ wq.heap[bd]? = some (.cells cd 25 (0, 0)) ∧ cd.size = 255 ∧ Below (bf + 1) W0 wq) (fun q _ => L - (intOf q).toNat)
            case atStart =>
              obtain ⟨cw, h1, h2⟩ := HW0.out
              obtain ⟨cd, h3, h4⟩ := HD0.out
              exact ⟨0, cw, cd, by omega, rfl, h1, h2, fun t ht => by omega, h3, h4, Below.refl _ _⟩
            case round =>
              obtain ⟨j, cw, cd, hjL, rfl, hcw, hcwz, hcwv, hcd, hcdz, hbq⟩ := hrel
              by_cases hjl : j < L
              · generalize wr = wo at *
                have hHT : TabAt wo bf := HT.out.below hbq (Nat.lt_succ_self _)
                have HTo := Hid.mk hHT
                have HXo : Hid (∀ i, i < l.length → wo.cell? ⟨w.heap.size, i, none⟩ = some (.int .u8 ((X i).toNat : Int))) := fun i hi => by rw [hbq.cell (show w.heap.size < bf + 1 by omega)]; exact HX0.out i hi
                have HRo : Hid (∀ i, i < l.length → ∃ c o cap, wo.cell? ⟨w.heap.size + 1, i, none⟩ = some (.slice (some ⟨c, o, none⟩) L cap) ∧ c < w.heap.size ∧ wo.cell? ⟨c, o + j, none⟩ = some (.int .u8 ((Y j i).toNat : Int))) := fun i hi => by
                  obtain ⟨c, o, cap, h1, h2, h3⟩ := HR0.out i hi j hjl
                  exact ⟨c, o, cap, by rw [hbq.cell (show w.heap.size + 1 < bf + 1 by omega)]; exact h1, h2, by rw [hbq.cell (show c < bf + 1 by omega)]; exact h3⟩
                have HWo : Hid (wo.heap[bf + 1]? = some (.cells cw 5 (0, 0)) ∧ cw.size = L ∧ (∀ t, t < j → cw[t]? = some (.int .u8 ((horner (fun i => (X i, Y t i)) l.length (l.length - 1)).toNat : Int))) ∧ Below (bf + 1) W0 wo) := ⟨hcw, hcwz, hcwv, hbq⟩
                have HDo : Hid (DTo wo bd 0 (Y j)) := ⟨cd, hcd, hcdz, fun t ht => by omega⟩
                have hjl' : (j : Int) < (L : Int) := by omega
                clear hHT hcw hcwz hcwv hcd hcdz hbq
                go_wp2
                go_loopw [20] (fun q wq => ∃ i : Nat, i ≤ l.length ∧ q = .int .i64 i ∧ DTo wq bd i (Y j) ∧ Below bd wo wq) (fun q _ => l.length - (intOf q).toNat)
                case atStart => exact ⟨0, by omega, rfl, HDo.out, Below.refl _ _⟩
                case round =>
                  obtain ⟨i, hin, rfl, hD, hbi⟩ := hrel
                  by_cases hil : i < l.length
                  · obtain ⟨c, o, cap, e1, e2, e3⟩ := HRo.out i hil
                    have g1 : wr.cell? ⟨w.heap.size + 1, i, none⟩ = some (.slice (some ⟨c, o, none⟩) L cap) := by rw [hbi.cell (show w.heap.size + 1 < bd by omega)]; exact e1
                    have g2 : wr.cell? ⟨c, o + j, none⟩ = some (.int .u8 ((Y j i).toNat : Int)) := by rw [hbi.cell (show c < bd by omega)]; exact e3
                    obtain ⟨v, g3⟩ := hD.room i (by omega)
                    have g4 := hD.frozen i
                    have hil' : (i : Int) < (l.length : Int) := by omega
                    have HDi := Hid.mk hD
                    clear e1 e3 hD
                    go_wp2
                    go_roundw
                    case rel => exact ⟨i + 1, by omega, by go_num, HDi.out.push (by omega), hbi.setCell (Nat.le_refl _) _⟩
                    case measure => simp [intOf]; omega
                  · have hin' : i = l.length := by omega
                    subst hin'
                    generalize wr = w4 at *
                    go_wp2
                    go_loopw [21] (fun q wq => ∃ k : Nat, 1 ≤ k ∧ k ≤ l.length ∧ q = .int .i64 k ∧ DTo wq bd l.length (stage (fun i => (X i, Y j i)) k) ∧ Below bd wo wq) (fun q _ => l.length - (intOf q).toNat)
                    case atStart => exact ⟨1, by omega, by omega, rfl, hD.congr fun t ht => rfl, hbi⟩
                    case round =>
                      obtain ⟨k, hk1, hkn, rfl, hDk, hbk⟩ := hrel
                      by_cases hkl : k < l.length
                      · have hkl' : (k : Int) < (l.length : Int) := by omega
                        have HDk := Hid.mk hDk
                        have HBk := Hid.mk hbk
                        clear hD hbi hDk
                        generalize wr = w5 at *
                        go_wp2
                        go_loopw [22] (fun q wq => ∃ i : Nat, k - 1 ≤ i ∧ i < l.length ∧ q = .int .i64 i ∧ DTo wq bd l.length (fun t => if i < t then dd (fun i => (X i, Y j i)) k t else stage (fun i => (X i, Y j i)) k t) ∧ Below bd wo wq) (fun q _ => (intOf q).toNat)
                        case atStart => exact ⟨l.length - 1, by omega, by omega, by go_num, HDk.out.congr fun t ht => by rw [if_neg (by omega)], hbk⟩
                        case round =>
                          obtain ⟨i, hi1, hi2, rfl, hDi, hbi⟩ := hrel
                          by_cases hik : k ≤ i
                          · have c1 := hDi.cell i hi2
                            have c2 := hDi.cell (i - 1) (by omega)
                            rw [if_neg (by omega), stage, if_neg (by omega)] at c1
                            rw [if_neg (by omega), stage, if_neg (by omega)] at c2
                            have c3 : wr.cell? ⟨w.heap.size, i, none⟩ = some (.int .u8 ((X i).toNat : Int)) := by rw [hbi.cell (show w.heap.size < bd by omega)]; exact HXo.out i hi2
                            have c4 : wr.cell? ⟨w.heap.size, i - k, none⟩ = some (.int .u8 ((X (i - k)).toNat : Int)) := by rw [hbi.cell (show w.heap.size < bd by omega)]; exact HXo.out (i - k) (by omega)
                            have f1 := hDi.frozen i
                            have hT : TabAt wr bf := HTo.out.below hbi (by omega)
                            have HTr := Hid.mk hT
                            have HNE : Hid (X i ^^^ X (i - k) ≠ 0) := xor_ne (HXd.out i hi2 (i - k) (by omega) (by omega))
                            have HDI := Hid.mk hDi
                            have hik' : (k : Int) ≤ (i : Int) := by omega
                            have hi2' : (i : Int) < 255 := by omega
                            have b1 : (1 : Int) ≤ (i : Int) := by omega
                            have b5 : IntKind.i64.wrap ((i : Int) - 1) = (i : Int) - 1 := wrap_small _ (by omega) (by omega)
                            have b6 : IntKind.i64.wrap ((i : Int) - (k : Int)) = (i : Int) - (k : Int) := wrap_small _ (by omega) (by omega)
                            have b2 : (i : Int) - 1 < 255 := by omega
                            have b4 : (i : Int) - (k : Int) < 255 := by omega
                            have HDD : Hid (dd (fun i => (X i, Y j i)) k i = gm (dd (fun i => (X i, Y j i)) (k - 1) i ^^^ dd (fun i => (X i, Y j i)) (k - 1) (i - 1)) (gi (X i ^^^ X (i - k)))) := by
                              obtain ⟨k', rfl⟩ : ∃ k', k = k' + 1 := ⟨k - 1, by omega⟩
                              rfl
                            clear hDi hT
                            generalize dd (fun i => (X i, Y j i)) (k - 1) i = d1 at *
                            generalize dd (fun i => (X i, Y j i)) (k - 1) (i - 1) = d2 at *
                            go_wp2
                            refine wp_region_last 20 (by kernel_rfl) rfl (by kernel_rfl) ?_
                            simp only [List.take_succ_cons, List.take_zero, List.drop_succ_cons, List.drop_zero]
                            repeat (go_big_quiet_step ((go_at_call 5; simp only [u8x]; exact Calls.quiet_of (gfDiv_any bf _ _ _ HNE.out HTr.out))))
                            refine wpQuiet_nil ?_
                            intro _ hw'
                            obtain ⟨nq, hw''⟩ := hw'
                            subst hw''
                            go_wp2
                            go_roundw
                            case rel =>
                              refine ⟨i - 1, by omega, by omega, by go_num, ((HDI.out.drewN nq).set i _ (by omega)).congr fun t ht => ?_, (below_drewN' hbi nq).setCell (Nat.le_refl _) _⟩
                              by_cases hti : t = i
                              · subst hti
                                rw [if_pos rfl, if_pos (by omega), HDD.out]
                              · rw [if_neg hti]
                                by_cases hit : i < t
                                · rw [if_pos hit, if_pos (by omega)]
                                · rw [if_neg hit, if_neg (by omega)]
                            case measure => simp [intOf]; omega
                          · have hik' : ¬ (k : Int) ≤ (i : Int) := by omega
                            go_wp2
                            go_roundw
                            case rel =>
                              refine ⟨k + 1, by omega, by omega, by go_num, hDi.congr fun t ht => ?_, hbi⟩
                              have hki : i = k - 1 := by omega
                              subst hki
                              unfold stage
                              by_cases htk : k - 1 < t
                              · rw [if_pos htk, if_neg (by omega), Nat.add_sub_cancel]
                              · rw [if_neg htk, if_pos (show t < k + 1 - 1 by omega)]
                                by_cases htk2 : t < k - 1
                                · rw [if_pos htk2]
                                · rw [if_neg htk2, show t = k - 1 from by omega]
                            case measure => simp [intOf]; omega
                      · have hkn' : k = l.length := by omega
                        subst hkn'
                        have hkl' : ¬ (l.length : Int) < (l.length : Int) := by omega
                        have hDD : DTo wr bd l.length (fun t => dd (fun i => (X i, Y j i)) t t) := hDk.congr fun t ht => by
                          unfold stage
                          by_cases h : t < l.length - 1
                          · rw [if_pos h]
                          · rw [if_neg h, show t = l.length - 1 from by omega]
                        have c1 := hDD.cell (l.length - 1) (by omega)
                        have HDD := Hid.mk hDD
                        have h254 : (l.length : Int) ≤ 255 := by omega
                        have hn1' : (1 : Int) ≤ (l.length : Int) := by omega
                        have HH0 : Hid (horner (fun i => (X i, Y j i)) l.length 0 = dd (fun i => (X i, Y j i)) (l.length - 1) (l.length - 1)) := rfl
                        have HHS : Hid (∀ t, horner (fun i => (X i, Y j i)) l.length (t + 1) = dd (fun i => (X i, Y j i)) (l.length - 2 - t) (l.length - 2 - t) ^^^ gm (horner (fun i => (X i, Y j i)) l.length t) (X (l.length - 2 - t))) := fun _ => rfl
                        clear hD hbi hDk hDD
                        generalize dd (fun i => (X i, Y j i)) (l.length - 1) (l.length - 1) = d1 at *
                        generalize wr = w7 at *
                        go_wp2
                        have HT7 : Hid (TabAt w7 bf) := HTo.out.below hbk (by omega)
                        have HX7 : Hid (∀ i, i < l.length → w7.cell? ⟨w.heap.size, i, none⟩ = some (.int .u8 ((X i).toNat : Int))) := fun i hi => by rw [hbk.cell (show w.heap.size < bd by omega)]; exact HXo.out i hi
                        go_loopw [23, 24] (fun r q wq => ∃ (t m : Nat) (i : Int), t < l.length ∧ Hid (i = (l.length : Int) - 2 - (t : Int)) ∧ q = .int .i64 i ∧ r = .int .u8 ((horner (fun i => (X i, Y j i)) l.length t).toNat : Int) ∧ Hid (wq = w7.drewN m)) (fun _ q _ => (intOf q + 1).toNat)
                        case atStart => exact ⟨0, 0, (l.length : Int) - 2, by omega, by show _ = _; omega, rfl, by rw [HH0.out], rfl⟩
                        case round =>
                          obtain ⟨t, m, i, htl, HI, rfl, rfl, HW⟩ := hrel
                          by_cases hi0 : 0 ≤ i
                          · obtain ⟨ii, rfl⟩ := Int.eq_ofNat_of_zero_le hi0
                            have hii : ii + 1 < l.length := by have := HI.out; omega
                            have c2 : wr.cell? ⟨bd, ii, none⟩ = some (.int .u8 ((dd (fun i => (X i, Y j i)) ii ii).toNat : Int)) := by rw [HW.out]; exact HDD.out.cell ii (by omega)
                            have c3 : wr.cell? ⟨w.heap.size, ii, none⟩ = some (.int .u8 ((X ii).toNat : Int)) := by rw [HW.out]; exact HX7.out ii (by omega)
                            have HTr : Hid (TabAt wr bf) := by rw [HW.out]; exact HT7.out
                            have hii' : (ii : Int) < 255 := by omega
                            have HSt := HHS.out t
                            have hsub : l.length - 2 - t = ii := by have := HI.out; omega
                            rw [hsub] at HSt
                            have HS2 := Hid.mk HSt
                            clear HSt hsub
                            generalize horner (fun i => (X i, Y j i)) l.length t = r0 at *
                            generalize dd (fun i => (X i, Y j i)) ii ii = d2 at *
                            go_wp2
                            go_quiet ((go_at_call 6; exact Calls.quiet_of (gfMul_any bf _ _ _ HTr.out)))
                            go_wp2
                            go_roundw
                            case rel =>
                              refine ⟨t + 1, m + nq, (ii : Int) - 1, by have := HI.out; omega, by have := HI.out; show _ = _; omega, rfl, ?_, by rw [HW.out, World.drewN_drewN]; rfl⟩
                              rw [HS2.out, u8x]
                            case measure => simp [intOf]
                          · have htn : t = l.length - 1 := by have := HI.out; omega
                            subst htn
                            have hb7 : Below bd wo wr := by rw [HW.out]; exact below_drewN' hbk m
                            obtain ⟨hcw, hcwz, hcwv, hbq⟩ := HWo.out
                            have e1 : wr.heap[bf + 1]? = some (.cells cw 5 (0, 0)) := by rw [hb7.block _ (by omega)]; exact hcw
                            obtain ⟨v, e2⟩ : ∃ v, wr.cell? ⟨bf + 1, j, none⟩ = some v := by
                              rw [cell_of_row _ _ _ _ _ _ e1]
                              exact ⟨_, Array.getElem?_eq_getElem (by omega)⟩
                            have e3 : wr.frozen? ⟨bf + 1, j, none⟩ = false := frozen_of_row _ _ _ _ _ e1
                            obtain ⟨cd, e4, e5, _⟩ : DTo wr bd l.length (fun t => dd (fun i => (X i, Y j i)) t t) := by rw [HW.out]; exact HDD.out.drewN m
                            have HE : Hid (wr.heap[bf + 1]? = some (.cells cw 5 (0, 0)) ∧ cw.size = L ∧ (∀ t, t < j → cw[t]? = some (.int .u8 ((horner (fun i => (X i, Y t i)) l.length (l.length - 1)).toNat : Int))) ∧ Below (bf + 1) W0 wr ∧ wr.heap[bd]? = some (.cells cd 25 (0, 0)) ∧ cd.size = 255) := ⟨e1, hcwz, hcwv, hbq.trans (hb7.mono (by omega)), e4, e5⟩
                            clear hcw hcwz hcwv hbq e1 e4 e5
                            go_wp2
                            go_roundw
                            case rel =>
                              obtain ⟨e1, hcwz, hcwv, hbq, e4, e5⟩ := HE.out
                              refine ⟨j + 1, _, cd, by omega, by go_num, heap_setCell_same _ _ _ _ _ _ e1, by simpa using hcwz, fun t ht => ?_, ?_, e5, hbq.setCell (Nat.le_refl _) _⟩
                              · rw [Array.getElem?_setIfInBounds]
                                by_cases hjt : j = t
                                · subst hjt
                                  rw [if_pos rfl, if_pos (by omega)]
                                · rw [if_neg hjt]; exact hcwv t (by omega)
                              · rw [heap_setCell_other _ _ _ _ (by simp; omega)]; exact e4
                            case measure => simp [intOf]; omega
              · have hjL' : j = L := by omega
                subst hjL'
                have hbw2 : Below w.heap.size w wr := hbW.trans (hbq.mono (by omega))
                have hc := HGC.out wr hbw2
                have hwz : bf + 1 < wr.heap.size := (Array.getElem?_eq_some_iff.1 hcw).1
                have HCW : Hid (∀ t, t < j → wr.cell? ⟨bf + 1, t, none⟩ = some (.int .u8 ((horner (fun i => (X i, Y t i)) l.length (l.length - 1)).toNat : Int))) := fun t ht => by rw [cell_of_row _ _ _ _ _ _ hcw]; exact hcwv t ht
                have hL62 : (j : Int) ≤ 4611686018427387904 := by omega
                clear hcw hcwz hcwv hcd hcdz hbq
                go_wp2_with fail
                refine hc.mono ?_
                rintro e w8 ⟨hb8, g, cap, rfl, hcells⟩
                have HC8 := Hid.mk hcells
                have h2 : Hid (∀ t, t < j → w8.cell? ⟨bf + 1, t, none⟩ = some (.int .u8 ((horner (fun i => (X i, Y t i)) l.length (l.length - 1)).toNat : Int))) := fun t ht => by rw [hb8.cell hwz]; exact HCW.out t ht
                clear hcells hc
                go_wp2_with (go_at_call 8; refine (bytesEqual_same g (bf + 1) j cap j (fun t => horner (fun i => (X i, Y t i)) l.length (l.length - 1)) w8 hL62 HC8.out h2.out).mono ?_; rintro e w9 ⟨rfl, m, rfl⟩)
                go_ret
                exact ⟨rfl, below_drewN' (hbw2.trans (hb8.mono (by have := hbw2.size; omega))) m⟩
          · have hc := hbc hg
            clear hbc hgoodC hmem hsrt hlens
            by_cases hM0 : M = 0
            · have hd1 : ((M : Int) == 0) = true := by rw [hM0]; rfl
              clear hg hM0
              go_wp2_with fail
              refine hc.mono ?_
              rintro e w1 ⟨hb1, t, p, rfl⟩
              go_wp2
              go_ret
              exact ⟨rfl, hb.trans (hb1.mono (by omega))⟩
            · have hd1 : ((M : Int) == 0) = false := beq_eq_false_iff_ne.2 (by omega)
              by_cases hlM : l.length = M
              · have hsm : sm = false := by
                  cases sm
                  · rfl
                  · exact absurd ⟨hM0, hlM, rfl⟩ hg
                subst hsm
                have hd2 : ((l.length : Int) != (M : Int)) = false := by rw [hlM]; simp
                clear hlM
                clear hg 
                go_wp2_with fail
                refine hc.mono ?_
                rintro e w1 ⟨hb1, t, p, rfl⟩
                go_wp2
                go_ret
                exact ⟨rfl, hb.trans (hb1.mono (by omega))⟩
              · have hd2 : ((l.length : Int) != (M : Int)) = true := by rw [bne_iff_ne]; omega
                clear hlM
                clear hg 
                go_wp2_with fail
                refine hc.mono ?_
                rintro e w1 ⟨hb1, t, p, rfl⟩
                go_wp2
                go_ret
                exact ⟨rfl, hb.trans (hb1.mono (by omega))⟩
end Go.Proofs.Qxb6628248aFmt
