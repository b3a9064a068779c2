/-
  zzItoa (12).
-/
import Derived.Test.Qxb6628404aDoorLeaf
import Derived.BigCall
import Derived.Laws.IdiomStrings
namespace Go.Proofs.Qxb6628404aDoor
open Go.RowKit Go.Lib

/-- The buffer, from place i on, holds the text sfx. -/
structure Buf (w wr : World) (i : Nat) (sfx : List UInt8) : Prop where
  below : Below w.heap.size w wr
  len : sfx.length = 20 - i
  ex : ∃ cs : Array Value, wr.heap[w.heap.size]? = some (.cells cs 53 (0, 0)) ∧ cs.size = 20 ∧ ∀ t c, sfx[t]? = some c → cs[i + t]? = some (.int .u8 (c.toNat : Int))
theorem Buf.start (w : World) (cs : Array Value) (hs : cs.size = 20) : Buf w (w.alloc (.cells cs 53)) 20 [] :=
  ⟨(Below.refl _ w).alloc (Nat.le_refl _) _, rfl, cs, heap_alloc_new w _, hs, fun t c h => by simp at h⟩
theorem Buf.cell {w wr : World} {i : Nat} {sfx : List UInt8} (h : Buf w wr i sfx) (j : Nat) (hj : j < 20) : ∃ v, wr.cell? ⟨w.heap.size, j, none⟩ = some v := by
  obtain ⟨cs, h1, h2, _⟩ := h.ex
  exact ⟨cs[j]'(by omega), by rw [cell_of_row _ _ _ _ _ _ h1, Array.getElem?_eq_getElem (by omega)]⟩
theorem Buf.free {w wr : World} {i : Nat} {sfx : List UInt8} (h : Buf w wr i sfx) (j : Nat) : wr.frozen? ⟨w.heap.size, j, none⟩ = false := by
  obtain ⟨cs, h1, h2, _⟩ := h.ex
  exact frozen_of_row _ _ _ _ _ h1
theorem Buf.put {w wr : World} {i : Nat} {sfx : List UInt8} (h : Buf w wr (i + 1) sfx) (hi : i < 20) (c : UInt8) : Buf w (wr.setCell ⟨w.heap.size, i, none⟩ (.int .u8 (c.toNat : Int))) i (c :: sfx) := by
  obtain ⟨cs, h1, h2, h3⟩ := h.ex
  refine ⟨h.below.setCell (Nat.le_refl _) _, by simp [h.len]; omega, _, heap_setCell_same _ _ _ _ _ _ h1, by simpa using h2, fun t d ht => ?_⟩
  rw [Array.getElem?_setIfInBounds]
  cases t with
  | zero =>
    simp at ht
    subst ht
    rw [if_pos (by omega), if_pos (by omega)]
  | succ t =>
    rw [if_neg (by omega), show i + (t + 1) = i + 1 + t by omega]
    exact h3 t d (by simpa using ht)
theorem slice53 (W : World) (g i : Nat) (hi : i < 20) : (Instr.sliceAt 53 (.pointer (some ⟨g, 0, none⟩)) (some (.int .i64 (i : Int))) none none).run Tryd.prog W = .ok (.slice (some ⟨g, i, none⟩) (20 - i) (20 - i)) W := by
  have hlen : Tryd.prog.arrayLen 53 = 20 := by kernel_rfl
  have hel : Tryd.prog.elem 53 = 5 := by kernel_rfl
  have hs5 : (sizeOf 5).run Tryd.prog W = .ok 1 W := by kernel_rfl
  rw [run_sliceAt_array_l W 53 _ (by rw [hlen, hel]; exact Tryd.underlying53) .i64 _ (by omega) (by rw [hlen]; omega), hlen, hel, hs5]
  simp [slicedAt, Nat.ne_of_gt hi, Addr.add]
  omega
theorem Buf.conv {w wr : World} {i : Nat} {sfx : List UInt8} (h : Buf w wr i sfx) : (convert 22 9 (.slice (some ⟨w.heap.size, i, none⟩) (20 - i) (20 - i))).run Tryd.prog wr = .ok (.string ⟨sfx.toArray⟩) wr := by
  obtain ⟨cs, h1, h2, h3⟩ := h.ex
  have := run_convert_bytes_back (P := Tryd.prog) wr 22 9 5 ⟨w.heap.size, i, none⟩ (20 - i) sfx Tryd.underlying22 Tryd.underlying5 Tryd.underlying9 (fun j hj => by
    rw [show (⟨w.heap.size, i, none⟩ : Addr).add j = ⟨w.heap.size, i + j, none⟩ by simp [Addr.add], cell_of_row _ _ _ _ _ _ h1]
    exact h3 j _ (List.getElem?_eq_getElem hj))
  rwa [h.len] at this
theorem digit_val (U : Nat) : ((UInt8.ofNat (48 + U % 10)).toNat : Int) = 48 + (U : Int) % 10 := by
  rw [UInt8.toNat_ofNat_of_lt' (by show 48 + U % 10 < 256; omega)]
  omega

set_option maxRecDepth 100000 in
set_option maxHeartbeats 1000000 in
theorem itoa_any (v : Int) (h0 : -9223372036854775808 ≤ v) (h1 : v ≤ 9223372036854775807) (w : World) :
    Calls Tryd.prog 12 #[.int .i64 v] w fun e w' => (∃ s : ByteArray, e = .returned (.string s) ∧ s.data.toList = itoaL v) ∧ Below w.heap.size w w' := by
  by_cases hv : v < 0
  · obtain ⟨V, hV, hVl⟩ : ∃ V : Nat, (V : Int) = -v ∧ V ≤ 9223372036854775808 := ⟨(-v).toNat, by omega, by omega⟩
    have HI : Hid (itoaL v = 45 :: digs 20 V) := by
      show itoaL v = _
      unfold itoaL
      rw [if_pos hv, show (-v).toNat = V by omega]
    have HV : Hid ((V : Int) = -v) := hV
    clear hV
    go_enter Tryd.func12, Tryd.ntmps12
    go_wp2
    have hbf := Buf.start w #[.int .u8 0, .int .u8 0, .int .u8 0, .int .u8 0, .int .u8 0, .int .u8 0, .int .u8 0, .int .u8 0, .int .u8 0, .int .u8 0, .int .u8 0, .int .u8 0, .int .u8 0, .int .u8 0, .int .u8 0, .int .u8 0, .int .u8 0, .int .u8 0, .int .u8 0, .int .u8 0] rfl
    go_loopw [3, 6] (fun u q wr => ∃ (i U : Nat), 1 ≤ i ∧ i ≤ 19 ∧ q = .int .i64 ((i : Int) + 1) ∧ u = .int .u64 (U : Int) ∧ Hid (U < 10 ^ i ∧ ∃ sfx, digs 20 V = digs (i + 1) U ++ sfx ∧ Buf w wr (i + 1) sfx)) (fun _ q _ => (intOf q).toNat)
    case atStart => exact ⟨19, V, by omega, by omega, rfl, by rw [HV.out]; congr 1; omega, Nat.lt_of_le_of_lt hVl (by rw [show (10 : Nat) ^ 19 = 10000000000000000000 from by decide]; omega), [], by rw [List.append_nil], hbf⟩
    case round =>
      obtain ⟨i, U, hi1, hi2, rfl, rfl, HU⟩ := hrel
      obtain ⟨hU10, sfx, hdg, hb⟩ := HU.out
      obtain ⟨v0, hcv⟩ := hb.cell i (by omega)
      have hfz := hb.free i
      have HB : Hid (Buf w wr (i + 1) sfx) := hb
      have HDG : Hid (digs 20 V = digs (i + 1) U ++ sfx) := hdg
      have HU10 : Hid (U < 10 ^ i) := hU10
      have hUl : (U : Int) < 10000000000000000000 := by
        have h19 : (10 : Nat) ^ i ≤ 10 ^ 19 := Nat.pow_le_pow_right (by omega) hi2
        have : (10 : Nat) ^ 19 = 10000000000000000000 := by decide
        omega
      have hU0 : (0 : Int) ≤ (U : Int) := by omega
      have hb1 := hb.put (by omega) (UInt8.ofNat (48 + U % 10))
      rw [digit_val] at hb1
      have HB1 : Hid (Buf w (wr.setCell ⟨w.heap.size, i, none⟩ (.int .u8 (48 + (U : Int) % 10))) i (UInt8.ofNat (48 + U % 10) :: sfx)) := hb1
      clear HU hb hdg hU10 hbf hb1
      by_cases hlt : U < 10
      · have hq : (U : Int) / 10 = 0 := by omega
        have HD2 : Hid (digs 20 V = UInt8.ofNat (48 + U % 10) :: sfx) := by
          show digs 20 V = _
          rw [HDG.out, digs, if_pos hlt]
          rfl
        generalize UInt8.ofNat (48 + U % 10) = c8 at *
        have hb2 := Buf.put (i := i - 1) (by rw [show i - 1 + 1 = i by omega]; exact HB1.out) (by omega) 45
        obtain ⟨v1, hcv1⟩ := HB1.out.cell (i - 1) (by omega)
        have hfz1 := HB1.out.free (i - 1)
        have hsl : ∀ W, (Instr.sliceAt 53 (.pointer (some ⟨w.heap.size, 0, none⟩)) (some (.int .i64 ((i : Int) - 1))) none none).run Tryd.prog W = .ok (.slice (some ⟨w.heap.size, i - 1, none⟩) (20 - (i - 1)) (20 - (i - 1))) W := fun W => by
          have := slice53 W w.heap.size (i - 1) (by omega)
          rwa [show ((i - 1 : Nat) : Int) = (i : Int) - 1 by omega] at this
        have HB2 : Hid (Buf w ((wr.setCell ⟨w.heap.size, i, none⟩ (.int .u8 (48 + (U : Int) % 10))).setCell ⟨w.heap.size, i - 1, none⟩ (.int .u8 45)) (i - 1) (45 :: c8 :: sfx)) := hb2
        have hcn := HB2.out.conv
        have hi1' : (1 : Int) ≤ (i : Int) := by omega
        clear hb2
        go_wp2
        go_ret
        refine ⟨⟨_, rfl, ?_⟩, HB2.out.below⟩
        rw [HI.out, HD2.out]
      · have hq : ((U : Int) / 10 == 0) = false := by rw [beq_eq_false_iff_ne]; omega
        have hi3 : 2 ≤ i := by
          refine Nat.lt_of_not_le fun h => ?_
          have h10 := HU10.out
          rw [show i = 1 by omega] at h10
          omega
        go_wp2
        refine ⟨⟨i - 1, U / 10, by omega, by omega, by rw [show ((i - 1 : Nat) : Int) + 1 = (i : Int) by omega], rfl, ?_, UInt8.ofNat (48 + U % 10) :: sfx, ?_, ?_⟩, by simp [intOf]⟩
        · have h10 := HU10.out
          obtain ⟨k, rfl⟩ : ∃ k, i = k + 1 := ⟨i - 1, by omega⟩
          rw [Nat.pow_succ] at h10
          show U / 10 < 10 ^ (k + 1 - 1)
          rw [Nat.add_sub_cancel]
          omega
        · rw [HDG.out, digs, if_neg hlt, show i - 1 + 1 = i by omega]
          simp
        · rw [show i - 1 + 1 = i by omega]
          exact HB1.out
  · obtain ⟨V, hV, hVl⟩ : ∃ V : Nat, (V : Int) = v ∧ V ≤ 9223372036854775808 := ⟨v.toNat, by omega, by omega⟩
    have HI : Hid (itoaL v = digs 20 V) := by
      show itoaL v = _
      unfold itoaL
      rw [if_neg hv, show v.toNat = V by omega]
    have HV : Hid ((V : Int) = v) := hV
    clear hV
    go_enter Tryd.func12, Tryd.ntmps12
    go_wp2
    have hbf := Buf.start w #[.int .u8 0, .int .u8 0, .int .u8 0, .int .u8 0, .int .u8 0, .int .u8 0, .int .u8 0, .int .u8 0, .int .u8 0, .int .u8 0, .int .u8 0, .int .u8 0, .int .u8 0, .int .u8 0, .int .u8 0, .int .u8 0, .int .u8 0, .int .u8 0, .int .u8 0, .int .u8 0] rfl
    go_loopw [3, 6] (fun u q wr => ∃ (i U : Nat), 1 ≤ i ∧ i ≤ 19 ∧ q = .int .i64 ((i : Int) + 1) ∧ u = .int .u64 (U : Int) ∧ Hid (U < 10 ^ i ∧ ∃ sfx, digs 20 V = digs (i + 1) U ++ sfx ∧ Buf w wr (i + 1) sfx)) (fun _ q _ => (intOf q).toNat)
    case atStart => exact ⟨19, V, by omega, by omega, rfl, by rw [HV.out], Nat.lt_of_le_of_lt hVl (by rw [show (10 : Nat) ^ 19 = 10000000000000000000 from by decide]; omega), [], by rw [List.append_nil], hbf⟩
    case round =>
      obtain ⟨i, U, hi1, hi2, rfl, rfl, HU⟩ := hrel
      obtain ⟨hU10, sfx, hdg, hb⟩ := HU.out
      obtain ⟨v0, hcv⟩ := hb.cell i (by omega)
      have hfz := hb.free i
      have HB : Hid (Buf w wr (i + 1) sfx) := hb
      have HDG : Hid (digs 20 V = digs (i + 1) U ++ sfx) := hdg
      have HU10 : Hid (U < 10 ^ i) := hU10
      have hUl : (U : Int) < 10000000000000000000 := by
        have h19 : (10 : Nat) ^ i ≤ 10 ^ 19 := Nat.pow_le_pow_right (by omega) hi2
        have : (10 : Nat) ^ 19 = 10000000000000000000 := by decide
        omega
      have hU0 : (0 : Int) ≤ (U : Int) := by omega
      have hb1 := hb.put (by omega) (UInt8.ofNat (48 + U % 10))
      rw [digit_val] at hb1
      have HB1 : Hid (Buf w (wr.setCell ⟨w.heap.size, i, none⟩ (.int .u8 (48 + (U : Int) % 10))) i (UInt8.ofNat (48 + U % 10) :: sfx)) := hb1
      clear HU hb hdg hU10 hbf hb1
      by_cases hlt : U < 10
      · have hq : (U : Int) / 10 = 0 := by omega
        have HD2 : Hid (digs 20 V = UInt8.ofNat (48 + U % 10) :: sfx) := by
          show digs 20 V = _
          rw [HDG.out, digs, if_pos hlt]
          rfl
        generalize UInt8.ofNat (48 + U % 10) = c8 at *
        have hsl := fun W => slice53 W w.heap.size i (by omega)
        have hcn := HB1.out.conv
        go_wp2
        go_ret
        refine ⟨⟨_, rfl, ?_⟩, HB1.out.below⟩
        rw [HI.out, HD2.out]
      · have hq : ((U : Int) / 10 == 0) = false := by rw [beq_eq_false_iff_ne]; omega
        have hi3 : 2 ≤ i := by
          refine Nat.lt_of_not_le fun h => ?_
          have h10 := HU10.out
          rw [show i = 1 by omega] at h10
          omega
        go_wp2
        refine ⟨⟨i - 1, U / 10, by omega, by omega, by rw [show ((i - 1 : Nat) : Int) + 1 = (i : Int) by omega], rfl, ?_, UInt8.ofNat (48 + U % 10) :: sfx, ?_, ?_⟩, by simp [intOf]⟩
        · have h10 := HU10.out
          obtain ⟨k, rfl⟩ : ∃ k, i = k + 1 := ⟨i - 1, by omega⟩
          rw [Nat.pow_succ] at h10
          show U / 10 < 10 ^ (k + 1 - 1)
          rw [Nat.add_sub_cancel]
          omega
        · rw [HDG.out, digs, if_neg hlt, show i - 1 + 1 = i by omega]
          simp
        · rw [show i - 1 + 1 = i by omega]
          exact HB1.out
end Go.Proofs.Qxb6628404aDoor
