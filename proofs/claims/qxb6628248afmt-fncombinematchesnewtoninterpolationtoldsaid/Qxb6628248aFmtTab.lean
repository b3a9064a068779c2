/-
  THE TABLES: gfMul, gfDiv, over a block that holds the tables; bytesEqual.
-/
import Derived.Test.Qxb6628248aFmtLeaf
import Derived.Deep.QuietTactic
import Derived.BigQuiet
namespace Go.Proofs.Qxb6628248aFmt
open Go.RowKit
open Gf

/-- The block b holds the tables: exp from cell 0 on, log from cell 510 on. -/
def TabAt (w : World) (b : Nat) : Prop :=
  (∀ i : Nat, i < 510 → w.cell? ⟨b, i, none⟩ = some (.int .u8 ((gp i).toNat : Int))) ∧
  (∀ x : UInt8, w.cell? ⟨b, 510 + x.toNat, none⟩ = some (.int .i64 (lg x : Int)))

theorem u8_ne0 {x : UInt8} (h : x ≠ 0) : 0 < (x.toNat : Int) := by
  have : x.toNat ≠ 0 := fun e => h (UInt8.toNat.inj (by rw [e]; rfl))
  omega
theorem beq0 {x : UInt8} (h : x ≠ 0) : ((x.toNat : Int) == 0) = false := beq_eq_false_iff_ne.2 (by have := u8_ne0 h; omega)

set_option maxRecDepth 100000 in
set_option maxHeartbeats 400000 in
theorem gfMul_any (b : Nat) (x y : UInt8) (w : World) (ht : TabAt w b) :
    Calls Tryf.prog 6 #[.pointer (some ⟨b, 0, none⟩), .int .u8 (x.toNat : Int), .int .u8 (y.toNat : Int)] w fun e w' => e = .returned (.int .u8 ((gm x y).toNat : Int)) ∧ ∃ n, w' = w.drewN n := by
  have hxl : (x.toNat : Int) < 256 := by have := x.toNat_lt; omega
  have hyl : (y.toNat : Int) < 256 := by have := y.toNat_lt; omega
  by_cases hx : x = 0
  · subst hx
    rw [zero_gm]
    clear ht hxl
    go_enter Tryf.func6, Tryf.ntmps6
    go_wp2
    go_ret
    exact ⟨rfl, 0, rfl⟩
  · have bx := beq0 hx
    by_cases hy : y = 0
    · subst hy
      rw [gm_zero]
      clear ht hyl
      go_enter Tryf.func6, Tryf.ntmps6
      go_wp2
      go_ret
      exact ⟨rfl, 0, rfl⟩
    · have byy := beq0 hy
      have h1 := ht.2 x
      have h2 := ht.2 y
      have hlx := lg_lt x
      have hly := lg_lt y
      have h3 := ht.1 (lg x + lg y) (by omega)
      have HT : Hid (gm x y = gp (lg x + lg y)) := gm_table x y hx hy
      clear ht
      go_enter Tryf.func6, Tryf.ntmps6
      go_wp2
      go_quiet (fail)
      go_wp2
      go_ret
      exact ⟨ret_u8 (by rw [HT.out]), _, rfl⟩

set_option maxRecDepth 100000 in
set_option maxHeartbeats 400000 in
theorem gfDiv_any (b : Nat) (x y : UInt8) (w : World) (hy : y ≠ 0) (ht : TabAt w b) :
    Calls Tryf.prog 5 #[.pointer (some ⟨b, 0, none⟩), .int .u8 (x.toNat : Int), .int .u8 (y.toNat : Int)] w fun e w' => e = .returned (.int .u8 ((gm x (gi y)).toNat : Int)) ∧ ∃ n, w' = w.drewN n := by
  have hxl : (x.toNat : Int) < 256 := by have := x.toNat_lt; omega
  have hyl : (y.toNat : Int) < 256 := by have := y.toNat_lt; omega
  by_cases hx : x = 0
  · subst hx
    rw [zero_gm]
    clear ht hxl
    go_enter Tryf.func5, Tryf.ntmps5
    go_wp2
    go_ret
    exact ⟨rfl, 0, rfl⟩
  · have bx := beq0 hx
    have h1 := ht.2 x
    have h2 := ht.2 y
    have hlx := lg_lt x
    have hly := lg_lt y
    have h3 := ht.1 (lg x + 255 - lg y) (by omega)
    have HT : Hid (gm x (gi y) = gp (lg x + 255 - lg y)) := gm_gi_table x y hx hy
    clear ht
    go_enter Tryf.func5, Tryf.ntmps5
    go_wp2
    go_quiet (fail)
    go_wp2
    go_ret
    exact ⟨ret_u8 (by rw [HT.out]), _, rfl⟩

/-! ### A variable of many cells is laid: its zero cells stay behind a name -/
section
variable {P : Program}
theorem wp_alloc_row {o : Oper} {a : Act} {w : World} {K : Act → World → Prop} {Q : Exit → Act → World → Prop} (ty : TypeId) (ho : o.op = .alloc ty) (zc : Array Value)
    (hz : (P.info? ty).map (·.zero) = some (some (.agg zc))) (h : K (a.put o.dst (.pointer (some ⟨w.heap.size, 0, none⟩))) (w.alloc (.cells zc ty))) : o.wp P a w K Q := by
  cases hq : P.info? ty with
  | none => simp [hq] at hz
  | some i =>
    have hz' : i.zero = some (.agg zc) := by simpa [hq] using hz
    unfold Oper.wp execOp
    simp only [ho, Instr.alloc, zeroValue, typeInfo, Sem.run_bind]
    simp [hq, hz', newVar, newRow, Value.cells]
    exact h
theorem wpList_alloc_row {ops : Array Oper} {rest : List Oper} {o : Oper} {a : Act} {w : World} {Q : Exit → Act → World → Prop} (hgd : o.guard = none) (ty : TypeId) (ho : o.op = .alloc ty) (zc : Array Value)
    (hz : (P.info? ty).map (·.zero) = some (some (.agg zc))) (h : wpList P ops Q rest (a.put o.dst (.pointer (some ⟨w.heap.size, 0, none⟩))) (w.alloc (.cells zc ty))) : wpList P ops Q (o :: rest) a w :=
  wpList_plain hgd fun _ hK => wp_alloc_row ty ho zc hz (hK _ _ h)
end
def z30 : Array Value := ⟨List.replicate 510 (.int .u8 0) ++ List.replicate 256 (.int .i64 0)⟩
def z25 : Array Value := ⟨List.replicate 255 (.int .u8 0)⟩
def z26 : Array Value := ⟨List.replicate 255 (.slice none 0 0)⟩
theorem zero30 : (Tryf.prog.info? 30).map (·.zero) = some (some (.agg z30)) := by kernel_rfl
theorem zero25 : (Tryf.prog.info? 25).map (·.zero) = some (some (.agg z25)) := by kernel_rfl
theorem zero26 : (Tryf.prog.info? 26).map (·.zero) = some (some (.agg z26)) := by kernel_rfl

/-- The tables' cells after k rounds. -/
def tabF (k i : Nat) : Value :=
  if i < 510 then (if i < k then .int .u8 ((gp i).toNat : Int) else if 255 ≤ i ∧ i < 255 + k then .int .u8 ((gp i).toNat : Int) else .int .u8 0)
  else if i = 510 then .int .i64 0 else if lg (UInt8.ofNat (i - 510)) < k then .int .i64 (lg (UInt8.ofNat (i - 510)) : Int) else .int .i64 0

theorem z30_size : z30.size = 766 := by
  unfold z30
  simp only [List.size_toArray, List.length_append, List.length_replicate]
theorem z30_tab (i : Nat) (h : i < 766) : z30[i]? = some (tabF 0 i) := by
  unfold z30 tabF
  simp only [List.getElem?_toArray, List.getElem?_append, List.length_replicate, List.getElem?_replicate]
  split
  · rw [if_neg (by omega), if_neg (by omega)]
  · rw [if_pos (by omega)]
    simp
theorem tabF_one (k i : Nat) : (tabF k i).oneCell' = true := by
  unfold tabF
  repeat' split
  all_goals rfl
theorem tab_all {cs : Array Value} {k : Nat} (hsz : cs.size = 766) (hcs : ∀ i, i < 766 → cs[i]? = some (tabF k i)) : cs.all (·.oneCell') = true := by
  rw [Array.all_eq_true_iff_forall_mem]
  intro v hv
  obtain ⟨i, hi, rfl⟩ := Array.mem_iff_getElem.1 hv
  have := hcs i (by omega)
  rw [Array.getElem?_eq_getElem hi] at this
  rw [Option.some.inj this]
  exact tabF_one k i
theorem tab_round (k : Nat) (hk : k < 255) (cs : Array Value) (hsz : cs.size = 766) (hcs : ∀ i, i < 766 → cs[i]? = some (tabF k i)) (i : Nat) (hi : i < 766) :
    (((cs.setIfInBounds k (.int .u8 ((gp k).toNat : Int))).setIfInBounds (k + 255) (.int .u8 ((gp k).toNat : Int))).setIfInBounds (510 + (gp k).toNat) (.int .i64 (k : Int)))[i]? = some (tabF (k + 1) i) := by
  have hg := (gp k).toNat_lt
  have hg0 : (gp k).toNat ≠ 0 := fun e => gp_ne k (UInt8.toNat.inj (by rw [e]; rfl))
  simp only [Array.getElem?_setIfInBounds, Array.size_setIfInBounds, hsz]
  by_cases h510 : i < 510
  · rw [if_neg (by omega)]
    by_cases h2 : k + 255 = i
    · subst h2
      rw [if_pos rfl, if_pos (by omega), tabF, if_pos (by omega), if_neg (by omega), if_pos (by omega), gp_add_255]
    · rw [if_neg h2]
      by_cases h1 : k = i
      · subst h1
        rw [if_pos rfl, if_pos (by omega), tabF, if_pos (by omega), if_pos (by omega)]
      · rw [if_neg h1, hcs i hi, tabF, tabF, if_pos h510, if_pos h510]
        by_cases h3 : i < k
        · rw [if_pos h3, if_pos (show i < k + 1 by omega)]
        · rw [if_neg h3, if_neg (show ¬ i < k + 1 by omega)]
          by_cases h4 : 255 ≤ i ∧ i < 255 + k
          · rw [if_pos h4, if_pos (show 255 ≤ i ∧ i < 255 + (k + 1) by omega)]
          · rw [if_neg h4, if_neg (show ¬ (255 ≤ i ∧ i < 255 + (k + 1)) by omega)]
  · by_cases h3 : 510 + (gp k).toNat = i
    · subst h3
      rw [if_pos rfl, if_pos (by omega), tabF, if_neg h510, if_neg (by omega)]
      rw [show 510 + (gp k).toNat - 510 = (gp k).toNat from by omega, UInt8.ofNat_toNat, lg_gp k hk, if_pos (by omega)]
    · rw [if_neg h3, if_neg (by omega), if_neg (by omega), hcs i hi, tabF, tabF, if_neg h510, if_neg h510]
      by_cases h0 : i = 510
      · rw [if_pos h0, if_pos h0]
      · rw [if_neg h0, if_neg h0]
        have hne : lg (UInt8.ofNat (i - 510)) ≠ k := by
          intro e
          have hx : UInt8.ofNat (i - 510) ≠ 0 := by
            intro e0
            have := congrArg UInt8.toNat e0
            rw [UInt8.toNat_ofNat_of_lt' (by show i - 510 < 256; omega)] at this
            simp at this
            omega
          have hgx := gp_lg _ hx
          rw [e] at hgx
          have := congrArg UInt8.toNat hgx
          rw [UInt8.toNat_ofNat_of_lt' (by show i - 510 < 256; omega)] at this
          omega
        by_cases h5 : lg (UInt8.ofNat (i - 510)) < k
        · rw [if_pos h5, if_pos (by omega)]
        · rw [if_neg h5, if_neg (by omega)]
theorem tabAt_of {w : World} {b : Nat} {t : TypeId} {cs : Array Value} (hrow : w.heap[b]? = some (.cells cs t (0, 0))) (hcs : ∀ i, i < 766 → cs[i]? = some (tabF 255 i)) : TabAt w b := by
  refine ⟨fun i hi => ?_, fun x => ?_⟩
  · rw [cell_of_row _ _ _ _ _ _ hrow, hcs i (by omega), tabF, if_pos hi]
    by_cases h : i < 255
    · rw [if_pos h]
    · rw [if_neg h, if_pos (by omega)]
  · have hx := x.toNat_lt
    rw [cell_of_row _ _ _ _ _ _ hrow, hcs _ (by omega), tabF, if_neg (by omega)]
    rw [show 510 + x.toNat - 510 = x.toNat from by omega, UInt8.ofNat_toNat, if_pos (lg_lt x)]
    by_cases h0 : 510 + x.toNat = 510
    · rw [if_pos h0]
      have : x = 0 := UInt8.toNat.inj (by show x.toNat = 0; omega)
      subst this
      rfl
    · rw [if_neg h0]

set_option maxRecDepth 100000 in
set_option maxHeartbeats 400000 in
theorem gfNew_any (w : World) :
    Calls Tryf.prog 4 #[] w fun e w' => ∃ cs : Array Value, e = .returned (.agg cs) ∧ cs.size = 766 ∧ (∀ i, i < 766 → cs[i]? = some (tabF 255 i)) ∧ w'.heap.size = w.heap.size + 2 ∧ Below w.heap.size w w' := by
  go_enter Tryf.func4, Tryf.ntmps4
  go_wp2_with (refine wpList_alloc_row rfl 30 rfl z30 zero30 ?_)
  go_loopw [2, 3] (fun x i wr => ∃ (k : Nat) (cs : Array Value), k ≤ 255 ∧ i = .int .i64 k ∧ x = .int .u8 ((gp k).toNat : Int) ∧ wr.heap[w.heap.size + 1]? = some (.cells cs 30 (0, 0)) ∧ cs.size = 766 ∧ (∀ i, i < 766 → cs[i]? = some (tabF k i)) ∧ wr.heap.size = w.heap.size + 2 ∧ wr.heap[w.heap.size]? = some (.cells z30 30 (0, 0)) ∧ Below w.heap.size w wr) (fun _ i _ => 255 - (intOf i).toNat)
  case atStart =>
    exact ⟨0, z30, by omega, rfl, rfl, heap_alloc2_new _ _ _, z30_size, z30_tab, by simp, heap_alloc2_old _ _ _, ((Below.refl _ _).alloc (Nat.le_refl _) _).alloc (by simp) _⟩
  case round =>
    obtain ⟨k, cs, hk, rfl, rfl, hrow, hsz, hcs, hsize, hz, hb⟩ := hrel
    by_cases hlt : k < 255
    · have hg : ((gp k).toNat : Int) < 256 := by have := (gp k).toNat_lt; omega
      have hg' : (gp k).toNat < 256 := by have := (gp k).toNat_lt; omega
      have c1 : wr.cell? ⟨w.heap.size + 1, k, none⟩ = some (tabF k k) := by rw [cell_of_row _ _ _ _ _ _ hrow, hcs k (by omega)]
      have c2 : wr.cell? ⟨w.heap.size + 1, k + 255, none⟩ = some (tabF k (k + 255)) := by rw [cell_of_row _ _ _ _ _ _ hrow, hcs _ (by omega)]
      have c3 : wr.cell? ⟨w.heap.size + 1, 510 + (gp k).toNat, none⟩ = some (tabF k (510 + (gp k).toNat)) := by rw [cell_of_row _ _ _ _ _ _ hrow, hcs _ (by omega)]
      have f1 : ∀ j, wr.frozen? ⟨w.heap.size + 1, j, none⟩ = false := fun j => frozen_of_row _ _ _ _ _ hrow
      have hcs' := tab_round k hlt cs hsz hcs
      have HR : Hid (wr.heap[w.heap.size + 1]? = some (.cells cs 30 (0, 0)) ∧ cs.size = 766 ∧ wr.heap[w.heap.size]? = some (.cells z30 30 (0, 0))) := ⟨hrow, hsz, hz⟩
      have HC : Hid (∀ i, i < 766 → (((cs.setIfInBounds k (.int .u8 ((gp k).toNat : Int))).setIfInBounds (k + 255) (.int .u8 ((gp k).toNat : Int))).setIfInBounds (510 + (gp k).toNat) (.int .i64 (k : Int)))[i]? = some (tabF (k + 1) i)) := hcs'
      clear hcs hrow hsz hz hcs'
      go_wp2_with (go_at_call 9; refine (xtime_any _ _).mono ?_; rintro e w' ⟨rfl, rfl⟩)
      go_roundw
      case rel =>
        obtain ⟨hrow, hsz, hz⟩ := HR.out
        refine ⟨k + 1, _, by omega, by go_num, val_u8 (u8x _ _), heap_setCell_same _ _ _ _ _ _ (heap_setCell_same _ _ _ _ _ _ (heap_setCell_same _ _ _ _ _ _ hrow)), by simpa using hsz, HC.out, by simpa using hsize, ?_, ?_⟩
        · rw [heap_setCell_other _ _ _ _ (by simp), heap_setCell_other _ _ _ _ (by simp), heap_setCell_other _ _ _ _ (by simp), hz]
        · exact ((hb.setCell (by simp) _).setCell (by simp) _).setCell (by simp) _
      case measure => simp [intOf]; omega
    · have hi : (Tryf.prog.info? 30).map (·.size) = some cs.size := by rw [hsz]; kernel_rfl
      have hall := tab_all hsz hcs
      have hk' : k = 255 := by omega
      subst hk'
      go_wp2_with (first | refine wpList_load_row rfl 30 _ rfl (w.heap.size + 1) rfl 30 cs (0, 0) _ hrow Tryf.underlying30 rfl hi ?_ | refine wpList_store_row rfl 30 _ _ rfl (w.heap.size) cs rfl rfl 30 z30 hz hi (by rw [hsz]; exact z30_size) hall ?_)
      refine bodyPost_ret (v := .agg cs) (results_cell_row Tryf.results4 _ _ w.heap.size 30 cs (0, 0) _ rfl (setRow_heap _ _ _ _ _ _ hz) Tryf.underlying30 rfl hi) rfl ⟨cs, rfl, hsz, hcs, by simpa using hsize, ?_⟩
      exact ⟨hb.os, hb.tape, hb.output, by simpa using hb.size, fun j hj => by rw [setRow_other _ _ _ _ (by omega)]; exact hb.block j hj⟩

/-- Two slices of one length that hold the same bytes: true. -/
theorem drewN_zero (w : World) : w.drewN 0 = w := rfl
theorem drewN_drewN (w : World) (m n : Nat) : (w.drewN m).drewN n = w.drewN (m + n) := by
  simp [World.drewN, Nat.add_assoc]
set_option maxRecDepth 100000 in
set_option maxHeartbeats 400000 in
theorem bytesEqual_same (b1 b2 n c1 c2 : Nat) (g : Nat → UInt8) (w : World) (hn : (n : Int) ≤ 4611686018427387904)
    (h1 : ∀ i, i < n → w.cell? ⟨b1, i, none⟩ = some (.int .u8 ((g i).toNat : Int))) (h2 : ∀ i, i < n → w.cell? ⟨b2, i, none⟩ = some (.int .u8 ((g i).toNat : Int))) :
    Calls Tryf.prog 8 #[.slice (some ⟨b1, 0, none⟩) n c1, .slice (some ⟨b2, 0, none⟩) n c2] w fun e w' => e = .returned (.bool true) ∧ ∃ m, w' = w.drewN m := by
  have H1 : Hid (∀ i, i < n → w.cell? ⟨b1, i, none⟩ = some (.int .u8 ((g i).toNat : Int))) := h1
  have H2 : Hid (∀ i, i < n → w.cell? ⟨b2, i, none⟩ = some (.int .u8 ((g i).toNat : Int))) := h2
  clear h1 h2
  go_enter Tryf.func8, Tryf.ntmps8
  go_wp2
  go_loopw [5] (fun i wr => ∃ k m : Nat, k ≤ n ∧ i = .int .i64 k ∧ wr = w.drewN m) (fun i _ => n - (intOf i).toNat)
  case atStart => exact ⟨0, 0, by omega, rfl, rfl⟩
  case round =>
    obtain ⟨k, m, hk, rfl, rfl⟩ := hrel
    by_cases hlt : k < n
    · have e1 := H1.out k hlt
      have e2 := H2.out k hlt
      have hlt' : (k : Int) < (n : Int) := by omega
      go_wp2
      go_quiet (fail)
      go_wp2
      go_roundw
      case rel => exact ⟨k + 1, _, by omega, by go_num, rfl⟩
      case measure => simp [intOf]; omega
    · go_wp2
      go_ret
      exact ⟨rfl, _, rfl⟩
end Go.Proofs.Qxb6628248aFmt
