/-
  coordinates: the keys in 1 .. 255, sorted, and the one length; or an error.
-/
import Derived.Test.Qxb6628248aFmtErr
import Derived.Test.Qxb6628248aFmtKeys
import Derived.Deep.DeepFit
namespace Go.Proofs.Qxb6628248aFmt
open Go.RowKit Go.Maps Go.Sort
open Go.Extern.Stop Go.Stop Go.Extern

/-- sort.Ints, over this program: paid by the shelf's contract. -/
def SortInts : Prop := ∀ (blk off cap : Nat) (zs : List Int) (w : World), Holds (Value.int .i64) w blk off zs.toArray → blk < w.heap.size → zs.length < 4611686018427387904 →
    Calls Tryf.prog 15 #[.slice (some ⟨blk, off, none⟩) zs.length cap] w fun e w' =>
      e = .returned (.tuple #[]) ∧ ∃ n os, w' = grow (putRow (Value.int .i64) (Sort.ahead w n) blk off (zs.mergeSort fun x y => decide (x ≤ y)).toArray) os

/-- How a slice is read in the walk: as itself. -/
def RS : Value → Option (DataW Value × List MemPlace)
  | .slice a n c => some (.held (.slice a n c), [])
  | _ => none
theorem RS_inv {v : Value} {y : DataW Value × List MemPlace} (h : RS v = some y) : ∃ c : Option Addr × Nat × Nat, v = .slice c.1 c.2.1 c.2.2 ∧ y = (.held v, []) := by
  cases v <;> simp [RS] at h
  exact ⟨(_, _, _), rfl, h.symm⟩

theorem info3 : (Tryf.prog.info? 3).map (fun i => (i.zero, i.size, i.bytes)) = some (some (.int .i64 0), 1, 8) := by kernel_rfl

set_option maxRecDepth 100000 in
set_option maxHeartbeats 1000000 in
theorem coord_any (F : Interp) (hsort : SortInts) (b n : Nat) (D0 : DataW Value) (sa : Int → Option Addr) (ln sc : Int → Nat) (w : World) (hF : F.answers w.tape)
    (hown : w.ownsMap Tryf.prog 3 RS b n D0) (hmax : Maps.size D0 ≤ 65536) (hat0 : ∀ x zd, hasK D0 x = true → D0.atKey (.int .i64 x) zd = .held (.slice (sa x) (ln x) (sc x))) (hln : ∀ x, ln x ≤ 4611686018427387904)
    (hne : 1 ≤ Maps.size D0) :
    Calls Tryf.prog 10 #[.map (some b)] w fun e w' => Below w.heap.size w w' ∧ 
      ((∃ g cap L : Nat, e = .returned (.tuple #[.slice (some ⟨g, 0, none⟩) (ks D0).length cap, .int .i64 (L : Int), .nilIface]) ∧ w.heap.size ≤ g ∧ (∀ x, hasK D0 x = true → (1 ≤ x ∧ x ≤ 255) ∧ ln x = L) ∧ w'.ownsRow w.heap.size 3 1 (.slice (some ⟨g, 0, none⟩) (ks D0).length cap) (ks D0).length (((ks D0).map Int.ofNat).map (Value.int .i64))) ∨
       (∃ t p, e = .returned (.tuple #[.slice none 0 0, .int .i64 0, .iface t p]) ∧ ¬ ∀ x y, hasK D0 x = true → hasK D0 y = true → (1 ≤ x ∧ x ≤ 255) ∧ ln x = ln y)) := by
  obtain ⟨i0, hi, hz0, hz1, hz2⟩ := info_parts info3
  have hbl := hown.lt
  have hb0 : ((Maps.size D0 : Int) == 0) = false := beq_eq_false_iff_ne.2 (by omega)
  go_enter Tryf.func10, Tryf.ntmps10
  go_wp2_with (first
    | (at_len; refine wpList_len_own _ rfl _ 22 rfl 3 23 Tryf.underlying22 _ b n _ rfl hown ?_)
    | (at_range; refine wpList_range_own _ rfl _ 22 rfl 3 23 law3 Tryf.underlying22 _ b n _ rfl hown ?_; intro w0 hrg0 hg0 hs0)
    | go_in)
  go_frame
  go_loopw [5, 6] (fun v sz wr => ∃ (left : Lit → Bool) (cnt : Nat) (ss : List Int) (q : Int), wr.ranges Tryf.prog 3 RS b w.heap.size n D0 left cnt ∧ ss.length + cnt ≤ Maps.size D0 ∧
      wr.ownsRow w.heap.size 3 1 v ss.length (ss.map (Value.int .i64)) ∧ CollI D0 left ss ∧ Below w.heap.size w wr ∧ sz = .int .i64 q ∧ q ≤ 4611686018427387904 ∧ -1 ≤ q ∧ ((ss = [] ∧ q = -1) ∨ (0 ≤ q ∧ ss ≠ [] ∧ ∀ x ∈ ss, (ln x : Int) = q)) ∧ (∀ x ∈ ss, 1 ≤ x ∧ x ≤ 255))
    (fun _ _ wr => wr.rangeLeft b w.heap.size)
  case atStart =>
    exact ⟨_, _, [], -1, hrg0, by simp, ⟨rfl, .inl ⟨rfl, rfl⟩⟩, CollI.start D0, (Below.refl _ _).grown hg0 (Nat.le_refl _) (fun j hj => by cases hj), rfl, by omega, by omega, .inl ⟨rfl, rfl⟩, fun x hx => by cases hx⟩
  case round =>
    obtain ⟨left, cnt, ss, q, hrg, hcs, hrow, hC, hnx, rfl, hq1, hq2, hq3, hin⟩ := hrel
    have HQ : Hid ((ss = [] ∧ q = -1) ∨ (0 ≤ q ∧ ss ≠ [] ∧ ∀ x ∈ ss, (ln x : Int) = q)) := hq3
    have HI : Hid (∀ x ∈ ss, 1 ≤ x ∧ x ≤ 255) := hin
    clear hq3 hin
    go_wp2_with (first
      | (at_next; refine wpList_next_ranges _ rfl _ rfl 3 law3 RS (Value.int .i64) (fun c : Option Addr × Nat × Nat => .slice c.1 c.2.1 c.2.2) (fun key kl hk => by obtain ⟨x, hx, _⟩ := Maps.keyOf_int_inv Tryf.underlying3 hk; exact ⟨x, hx⟩) (fun v y hv => by obtain ⟨c, hc, _⟩ := RS_inv hv; exact ⟨c, hc⟩) b w.heap.size n _ _ _ rfl hrg ?_ ?_)
      | go_in)
    · -- nothing is left
      intro hc0 hl0
      have HL : Hid (ss.length = Maps.size D0) := hC.length_le hown hl0
      rcases hrow.2 with ⟨_, hnil⟩ | ⟨g, cap, cur, hv, hbase, hb, h1, h2, h3, h4⟩
      · have := HL.out; omega
      have hH : Holds (Value.int .i64) wr g 0 ss.toArray := holds_of_blockI hb (by simpa using h4)
      have hgl : g < wr.heap.size := (Array.getElem?_eq_some_iff.1 hb).1
      have hc := hsort g 0 cap ss wr hH hgl (by omega)
      subst hv
      have hall : ∀ x, hasK D0 x = true → x ∈ ss := fun x hx => (hC.2 x).2 ⟨hx, hl0 _⟩
      have hrange : ∀ x, hasK D0 x = true → 1 ≤ x ∧ x ≤ 255 := fun x hx => HI.out x (hall x hx)
      have HS : Hid (ss.mergeSort (fun x y => decide (x ≤ y)) = (ks D0).map Int.ofNat) := hC.sort hl0 hrange
      have HKL : Hid ((ks D0).length = ss.length) := by have h1 := HL.out; have h2 := (ks_all hown).2 hrange; show _ = _; omega
      obtain ⟨L, hL⟩ : ∃ L : Nat, q = (L : Int) ∧ ∀ x ∈ ss, ln x = L := by
        rcases HQ.out with ⟨h, _⟩ | ⟨h, h'⟩
        · have := HL.out; rw [h] at this; simp at this; omega
        · exact ⟨q.toNat, by omega, fun x hx => by have := h'.2 x hx; omega⟩
      have HLL : Hid (∀ x ∈ ss, ln x = L) := hL.2
      have hqL := hL.1
      have HB : Hid (wr.heap[g]? = some (.cells cur 3 (0, 0)) ∧ cur.size = cap * 1) := ⟨hb, h3⟩
      clear hL hrow hb h4 hC h3
      subst hqL
      go_wp2_with (go_at_call 15; refine hc.mono ?_; rintro e w' ⟨rfl, nn, os, rfl⟩)
      go_ret3
      refine ⟨hnx.grown (grownBy_sortedI _) hnx.size (fun j hj => by cases hj; exact hbase), .inl ⟨g, cap, L, by rw [HKL.out]; rfl, hbase, fun x hx => ⟨hrange x hx, HLL.out x (hall x hx)⟩, ?_⟩⟩
      rw [HKL.out, ← HS.out]
      exact ownsRow_sortedI (by simp) hbase HB.out.1 h1 h2 HB.out.2
    · intro x ca cl cc kl yd yp w2 cnt2 hkey hlk hv hat hrg2 hlt hg2 hs2 hen
      obtain ⟨x', ex, rfl, hwx⟩ := Maps.keyOf_int_inv Tryf.underlying3 hkey
      obtain rfl : x = x' := by simpa using ex
      clear ex
      have hx : hasK D0 x = true := has_true_of_atKey hat
      have hcl : cl = ln x := by
        obtain ⟨c', hc', hy⟩ := RS_inv hv
        have e1 := hat0 x .nil hx
        rw [hat] at e1
        simp only [Prod.mk.injEq] at hy
        rw [hy.1] at e1
        have := DataW.held.inj e1
        simp only [Value.slice.injEq] at this
        exact this.2.1
      subst hcl
      have hrow2 := hrow.kept hg2 (Or.inr (row_ne_iter hrow hrg).symm)
      have hlx := hln x
      have hF2 : F.answers w2.tape := by rw [hg2.tape, hnx.tape]; exact hF
      clear hs2 hat0
      have hnx2 : Below w.heap.size w w2 := hnx.grown hg2 hnx.size (fun j hj => by cases hj; exact Nat.le_refl _)
      have hwz2 := hnx2.size
      by_cases hxr : x < 1 ∨ 255 < x
      · have hbad : ¬ ∀ x y, hasK D0 x = true → hasK D0 y = true → (1 ≤ x ∧ x ≤ 255) ∧ ln x = ln y := fun h => by have := (h x x hx hx).1; omega
        have HBad : Hid (¬ ∀ x y, hasK D0 x = true → hasK D0 y = true → (1 ≤ x ∧ x ≤ 255) ∧ ln x = ln y) := hbad
        clear hbad
        rcases hxr with hx1 | hx1
        · have hd1 : decide (x < 1) = true := decide_eq_true hx1
          go_wp2_with (go_at_call 14; refine (errorf_any F x 255 _ _ (by exact hF2) (by go_simp) (by go_simp)).mono ?_; rintro e w' ⟨rfl, hb'⟩)
          go_ret3
          exact ⟨(hnx2.alloc hwz2 _).trans (hb'.mono (by simp; omega)), .inr ⟨_, _, rfl, HBad.out⟩⟩
        · have hd1 : decide (x < 1) = false := decide_eq_false (by omega)
          go_wp2_with (go_at_call 14; refine (errorf_any F x 255 _ _ (by exact hF2) (by go_simp) (by go_simp)).mono ?_; rintro e w' ⟨rfl, hb'⟩)
          go_ret3
          exact ⟨(hnx2.alloc hwz2 _).trans (hb'.mono (by simp; omega)), .inr ⟨_, _, rfl, HBad.out⟩⟩
      · have hx1 : ¬ x < 1 := by omega
        have hx2 : ¬ 255 < x := by omega
        have hd1 : decide (x < 1) = false := decide_eq_false hx1
        have hd2 : decide (255 < x) = false := decide_eq_false hx2
        clear hxr
        by_cases hq : 0 ≤ q ∧ (ln x : Int) ≠ q
        · have hbad : ¬ ∀ x y, hasK D0 x = true → hasK D0 y = true → (1 ≤ x ∧ x ≤ 255) ∧ ln x = ln y := fun h => by
            rcases HQ.out with ⟨h', h''⟩ | ⟨h', h''⟩
            · omega
            · obtain ⟨y, hy⟩ := List.exists_mem_of_ne_nil ss h''.1
              have := (h x y hx ((hC.2 y).1 hy).1).2
              have := h''.2 y hy
              omega
          have HBad : Hid (¬ ∀ x y, hasK D0 x = true → hasK D0 y = true → (1 ≤ x ∧ x ≤ 255) ∧ ln x = ln y) := hbad
          clear hbad
          obtain ⟨hq0, hqn⟩ := hq
          have hd3 : ((ln x : Int) != q) = true := by rw [bne_iff_ne]; exact hqn
          have hd4 : decide (0 ≤ q) = true := decide_eq_true hq0
          clear hqn
          go_wp2_with (go_at_call 13; refine (new_any _ _).mono ?_; rintro e w' ⟨rfl, rfl⟩)
          go_ret3
          exact ⟨hnx2.alloc hwz2 _, .inr ⟨_, _, rfl, HBad.out⟩⟩
        · have hnew : CollI D0 (fun z => left z && !z.sameKey (.int .i64 x)) (ss ++ [x]) := hC.step hlk hat
          have HN : Hid (CollI D0 (fun z => left z && !z.sameKey (.int .i64 x)) (ss ++ [x])) := hnew
          have HR : Hid (∀ y ∈ ss ++ [x], 1 ≤ y ∧ y ≤ 255) := by
            intro y hy
            rcases List.mem_append.1 hy with hy | hy
            · exact HI.out y hy
            · simp at hy; subst hy; omega
          have HQ' : Hid (∀ y ∈ ss ++ [x], (ln y : Int) = (ln x : Int)) := by
            intro y hy
            rcases List.mem_append.1 hy with hy | hy
            · rcases HQ.out with ⟨h', _⟩ | ⟨h', _, h''⟩
              · rw [h'] at hy; cases hy
              · have := h'' y hy; omega
            · simp at hy; subst hy; rfl
          clear hnew hC hat
          by_cases hq0 : 0 ≤ q
          · have hd4 : decide (0 ≤ q) = true := decide_eq_true hq0
            have hd3 : ((ln x : Int) != q) = false := by
              have : (ln x : Int) = q := by omega
              simp [this]
            clear hq
            go_wp2_with (first
              | (at_builtin; refine wpList_append_own _ rfl _ _ 41 rfl w.heap.size 3 i0 (.int .i64 0) 1 8 Tryf.underlying41 hi hz0 hz1 hz2 rfl (by decide) _ _ _ rfl (hrow2.alloc _) ⟨w2.heap.size, 0, none⟩ 1 1 [.int .i64 x] rfl rfl (cell_one_new _ _ _) (by simp [Value.oneCell']) (by unfold maxLen at *; omega) (by omega) (by simp; omega) ?_; intro v' w3 hown' hg3 hnil3; go_frame)
              | go_in)
            have hrg3 := (hrg2.alloc _).kept hg3 (row_ne_low hrow2 hbl) (row_ne_iter hrow2 hrg2)
            go_roundw
            case rel =>
              refine ⟨_, cnt2, ss ++ [x], (ln x : Int), hrg3, by simp; omega, by simpa using hown', HN.out, ?_, rfl, by omega, by omega, .inr ⟨by omega, by simp, HQ'.out⟩, HR.out⟩
              exact (hnx2.alloc hwz2 _).grown hg3 (by simp; omega) (fun j hj => (hrow2.lt j hj).1)
            case measure => rw [hrg3.left_eq, hrg.left_eq]; exact hlt
          · have hd4 : decide (0 ≤ q) = false := decide_eq_false hq0
            clear hq
            go_wp2_with (first
              | (at_builtin; refine wpList_append_own _ rfl _ _ 41 rfl w.heap.size 3 i0 (.int .i64 0) 1 8 Tryf.underlying41 hi hz0 hz1 hz2 rfl (by decide) _ _ _ rfl (hrow2.alloc _) ⟨w2.heap.size, 0, none⟩ 1 1 [.int .i64 x] rfl rfl (cell_one_new _ _ _) (by simp [Value.oneCell']) (by unfold maxLen at *; omega) (by omega) (by simp; omega) ?_; intro v' w3 hown' hg3 hnil3; go_frame)
              | go_in)
            have hrg3 := (hrg2.alloc _).kept hg3 (row_ne_low hrow2 hbl) (row_ne_iter hrow2 hrg2)
            go_roundw
            case rel =>
              refine ⟨_, cnt2, ss ++ [x], (ln x : Int), hrg3, by simp; omega, by simpa using hown', HN.out, ?_, rfl, by omega, by omega, .inr ⟨by omega, by simp, HQ'.out⟩, HR.out⟩
              exact (hnx2.alloc hwz2 _).grown hg3 (by simp; omega) (fun j hj => (hrow2.lt j hj).1)
            case measure => rw [hrg3.left_eq, hrg.left_eq]; exact hlt

set_option maxRecDepth 100000 in
set_option maxHeartbeats 400000 in
/-- A map of no entry, the nil one too. -/
theorem coord_none (mv : Value) (w : World) (hlen : ∀ ty, (Builtin.len_ #[22] ty #[mv]).run Tryf.prog w = .ok (.int .i64 0) w) :
    Calls Tryf.prog 10 #[mv] w fun e w' => Below w.heap.size w w' ∧ ∃ t p, e = .returned (.tuple #[.slice none 0 0, .int .i64 0, .iface t p]) := by
  go_enter Tryf.func10, Tryf.ntmps10
  go_wp2_with (first | (go_at_call 13; refine (new_any _ _).mono ?_; rintro e w' ⟨rfl, rfl⟩) | go_in)
  go_ret3
  exact ⟨(Below.refl _ _).alloc (Nat.le_refl _) _, _, _, rfl⟩
end Go.Proofs.Qxb6628248aFmt
