/-
  buildResult (7): what it lays.
-/
import Derived.Test.Qxb6628347aSize
import Derived.Deep.MidRow
import Derived.OwnWalk
namespace Go.Proofs.Qxb6628347a
open Go.RowKit Go.Lib

theorem info32 : (Try.prog.info? 32).map (fun i => (i.zero, i.size, i.bytes)) = some (some (.agg #[.int .i64 0, .int .i64 0, .string ⟨#[]⟩]), 3, 32) := by kernel_rfl
/-- The cells of a LogOutcome whose log is v. -/
def outRow (v : Value) : List Value := [v, .int .i64 0, .int .u64 0, .int .u64 0, .int .u64 0, .int .u64 0, .int .i64 0, .int .i64 0, .int .i64 0, .bool false, .bool false, .slice none 0 0]
def cmdRow (s : ByteArray) : List Value := [.int .i64 1, .int .i64 1, .string s]
theorem info39 : (Try.prog.info? 39).map (fun i => (i.zero, i.size, i.bytes)) = some (some (.agg (outRow (.slice none 0 0)).toArray), 12, 120) := by kernel_rfl
theorem size32 : (Try.prog.info? 32).map (·.size) = some 3 := by kernel_rfl
theorem size39 : (Try.prog.info? 39).map (·.size) = some 12 := by kernel_rfl

theorem below_setCells {B b : Nat} {a : World} (hb : B ≤ b) : ∀ (vs : List Value) (o : Nat) (w : World), Below B a w → Below B a (w.setCells b o vs)
  | [], _, _, h => h
  | v :: r, o, w, h => by
    rw [World.setCells]
    exact below_setCells hb r (o + 1) _ (h.setCell hb v)
theorem size_setCells (b : Nat) : ∀ (vs : List Value) (o : Nat) (w : World), (w.setCells b o vs).heap.size = w.heap.size
  | [], _, _ => rfl
  | v :: r, o, w => by rw [World.setCells, size_setCells b r (o + 1)]; simp

theorem lt_of_owned {w : World} {base e size n m g : Nat} {xs : List Value} {c : Nat} (h : w.ownsRow base e size (.slice (some ⟨g, 0, none⟩) m c) n xs) : g < w.heap.size := by
  rcases h.2 with ⟨h, _⟩ | ⟨g', cap', cur, h, _, h1, _⟩
  · cases h
  · cases h
    exact (Array.getElem?_eq_some_iff.1 h1).1
theorem there_of_owned {w : World} {base e size n g : Nat} {xs : List Value} {c : Nat} (h : w.ownsRow base e size (.slice (some ⟨g, 0, none⟩) n c) n xs) : w.there g 0 (n * size) := by
  rcases h.2 with ⟨h, _⟩ | ⟨g', cap', cur, h, _, h1, h2, h3, h4, h5⟩
  · cases h
  · cases h
    intro j hj
    have hjc : j < cur.size := by rw [h4]; exact Nat.lt_of_lt_of_le hj (Nat.mul_le_mul_right _ h2)
    rw [Nat.zero_add]
    refine ⟨?_, frozen_of_row _ _ _ _ _ h1⟩
    rw [cell_of_row _ _ _ _ _ _ h1, Array.getElem?_eq_getElem hjc]
    rfl

theorem cmd_all (s : ByteArray) : (cmdRow s).toArray.all (·.oneCell') = true := all_oneCell_toArray (by simp [cmdRow, Value.oneCell'])
theorem out_all (x : Option Addr) (l c : Nat) : (outRow (.slice x l c)).toArray.all (·.oneCell') = true := all_oneCell_toArray (by simp [outRow, Value.oneCell'])
theorem cmd_len (s : ByteArray) : (cmdRow s).toArray.size = 3 := rfl
theorem out_len (v : Value) : (outRow v).toArray.size = 12 := rfl
theorem cmd_fit {s : ByteArray} {i n : Nat} (h : i < n) : i * 3 + (cmdRow s).toArray.size ≤ n * 3 := by rw [cmd_len]; omega
theorem out_fit {v : Value} {i n : Nat} (h : i < n) : i * 12 + (outRow v).toArray.size ≤ n * 12 := by rw [out_len]; omega
theorem cmd_size (s : ByteArray) : (Try.prog.info? 32).map (·.size) = some (cmdRow s).toArray.size := by rw [cmd_len]; exact size32
theorem out_size (v : Value) : (Try.prog.info? 39).map (·.size) = some (outRow v).toArray.size := by rw [out_len]; exact size39
/-- What buildResult lays: the LogResult in block p. -/
structure Res (B : Nat) (w : World) (p n : Nat) (S : Nat → ByteArray) (m : Nat) (v : Nat → Value) : Prop where
  ex : ∃ q g1 g2, w.cell? ⟨p, 0, none⟩ = some (.pointer (some ⟨q, 0, none⟩)) ∧ w.cell? ⟨q, 8, none⟩ = some (.slice (some ⟨g1, 0, none⟩) n n) ∧ w.cell? ⟨p, 3, none⟩ = some (.slice (some ⟨g2, 0, none⟩) m m) ∧
    (∀ j, j < n → w.rangeAt g1 (j * 3) (cmdRow (S j))) ∧ (∀ i, i < m → w.rangeAt g2 (i * 12) (outRow (v i))) ∧ p < B ∧ q < B ∧ g1 < B ∧ g2 < B
theorem rangeAt_below {B b o : Nat} {w w' : World} {cs : List Value} (hb : Below B w w') (hlt : b < B) (h : w.rangeAt b o cs) : w'.rangeAt b o cs := fun j v hv => by
  rw [hb.cell (show b < B from hlt)]
  exact h j v hv
theorem Res.below {B B' : Nat} {w w' : World} {p n : Nat} {S : Nat → ByteArray} {m : Nat} {v : Nat → Value} (h : Res B w p n S m v) (hb : Below B' w w') (hB : B ≤ B') : Res B w' p n S m v := by
  obtain ⟨q, g1, g2, h1, h2, h3, h4, h5, h6, h7, h8, h9⟩ := h.ex
  exact ⟨q, g1, g2, by rw [hb.cell (show p < B' by omega)]; exact h1, by rw [hb.cell (show q < B' by omega)]; exact h2, by rw [hb.cell (show p < B' by omega)]; exact h3, fun j hj => rangeAt_below hb (by omega) (h4 j hj), fun j hj => rangeAt_below hb (by omega) (h5 j hj), h6, h7, h8, h9⟩

theorem there_part {w : World} {b o n k : Nat} (h : w.there b 0 n) (hk : o + k ≤ n) : w.there b o k := fun j hj => by
  have := h (o + j) (by omega)
  rwa [Nat.zero_add] at this

/-- Where the next operation is a store of type ty (a law is tried there alone). -/
theorem st_here {P : Program} {ops : Array Oper} {rest : List Oper} {a : Act} {w : World} {Q : Exit → Act → World → Prop} (ty : TypeId) {x y : Operand} {d : Option Tmp} {t : TypeId} {p : String} {af : Array Edge} {g : Option (Nat × Bool)}
    (h : wpList P ops Q (⟨d, .store ty x y, t, p, af, g⟩ :: rest) a w) : wpList P ops Q (⟨d, .store ty x y, t, p, af, g⟩ :: rest) a w := h
theorem store_cmd {ops : Array Oper} {rest : List Oper} {op : Oper} {a : Act} {w : World} {Q : Exit → Act → World → Prop} {b o : Nat} {s : ByteArray} (hgd : op.guard = none) (x y : Operand) (ho : op.op = .store 32 x y)
    (hx : a.eval x = .pointer (some ⟨b, o, none⟩)) (hy : a.eval y = .agg #[.int .i64 1, .int .i64 1, .string s]) (ht : w.there b o 3)
    (h : wpList Try.prog ops Q rest (a.put op.dst undef) (w.setCells b o (cmdRow s))) : wpList Try.prog ops Q (op :: rest) a w :=
  wpList_store_mid hgd 32 x y ho b o (cmdRow s).toArray hx hy ht (cmd_size s) (cmd_all s) h
theorem store_out {ops : Array Oper} {rest : List Oper} {op : Oper} {a : Act} {w : World} {Q : Exit → Act → World → Prop} {b o : Nat} {x1 : Option Addr} {l c : Nat} (hgd : op.guard = none) (x y : Operand) (ho : op.op = .store 39 x y)
    (hx : a.eval x = .pointer (some ⟨b, o, none⟩)) (hy : a.eval y = .agg #[.slice x1 l c, .int .i64 0, .int .u64 0, .int .u64 0, .int .u64 0, .int .u64 0, .int .i64 0, .int .i64 0, .int .i64 0, .bool false, .bool false, .slice none 0 0]) (ht : w.there b o 12)
    (h : wpList Try.prog ops Q rest (a.put op.dst undef) (w.setCells b o (outRow (.slice x1 l c)))) : wpList Try.prog ops Q (op :: rest) a w :=
  wpList_store_mid hgd 39 x y ho b o (outRow (.slice x1 l c)).toArray hx hy ht (out_size _) (out_all _ _ _) h

set_option maxRecDepth 100000 in
set_option maxHeartbeats 400000 in
theorem build_any (B : Nat) (A : Option Addr) (n k : Nat) (S : Nat → ByteArray) (A2 : Option Addr) (m k2 : Nat) (a : Nat → Option Addr) (L C : Nat → Nat) (T : Nat → Nat → ByteArray) (w : World) (hB : B ≤ w.heap.size) (hS : Strs B w A n S) (hG : Grid B w A2 m a L C T)
    (hn : n ≤ 4294967296) (hm : m ≤ 4294967296) :
    Calls Try.prog 7 #[.slice A n k, .slice A2 m k2] w fun e w' => Below w.heap.size w w' ∧ ∃ p, e = .returned (.pointer (some ⟨p, 0, none⟩)) ∧ Res w'.heap.size w' p n S m (fun i => .slice (a i) (L i) (C i)) := by
  obtain ⟨i32, hi32, hz32, hs32, hb32⟩ := info_parts info32
  obtain ⟨i39, hi39, hz39, hs39, hb39⟩ := info_parts info39
  go_enter Try.func7, Try.ntmps7
  go_wp2_with (first
      | (at_make; refine wpList_make_full _ rfl _ _ 30 rfl w.heap.size 32 i32 (.agg #[.int .i64 0, .int .i64 0, .string ⟨#[]⟩]) 3 Try.underlying30 hi32 hz32 hs32 _ _ _ _ n rfl rfl rfl rfl (by rw [hb32]; omega) (by unfold maxLen; omega) (Nat.le_refl _) ?_; intro w2 hrow2 hg2)
      | go_in)
  have hth2 : w2.there w.heap.size 0 (n * 3) := there_of_owned hrow2
  have hbw2 : Below w.heap.size w w2 := (Below.refl _ w).grown hg2 (Nat.le_refl _) (fun j hj => by cases hj)
  have hlt2 : w.heap.size < w2.heap.size := lt_of_owned hrow2
  clear hrow2 hg2
  go_loopw [6] (fun q wr => ∃ i : Nat, i ≤ n ∧ q = .int .i64 i ∧ Hid (wr.there w.heap.size 0 (n * 3) ∧ (∀ j, j < i → wr.rangeAt w.heap.size (j * 3) (cmdRow (S j))) ∧ Below w.heap.size w wr ∧ w.heap.size < wr.heap.size)) (fun q _ => n - (intOf q).toNat)
  case atStart => exact ⟨0, by omega, rfl, hth2, fun j hj => by omega, hbw2, hlt2⟩
  case round =>
    obtain ⟨i, hin, rfl, HW⟩ := hrel
    by_cases hlt : i < n
    · have hSr := hS.below HW.out.2.2.1 hB
      obtain ⟨b, o, rfl, _, hc⟩ := hSr.cells i hlt
      have hlt' : (i : Int) < (n : Int) := by omega
      have HT : Hid (wr.there w.heap.size (i * 3) 3) := there_part HW.out.1 (by omega)
      go_wp2_with (first
        | (with_reducible refine st_here 32 ?_; refine store_cmd rfl _ _ rfl rfl rfl HT.out ?_)
        | go_in)
      go_roundw
      case rel =>
        obtain ⟨h1, h2, h3, h4⟩ := HW.out
        refine ⟨i + 1, by omega, by go_num, World.there_setCells h1 _ _ _, fun j hj => ?_, below_setCells (Nat.le_refl _) _ _ _ h3, by rw [size_setCells]; exact h4⟩
        rcases Nat.lt_succ_iff_lt_or_eq.1 hj with h | h
        · exact World.rangeAt_setCells_apart (h2 j h) _ _ _ (by simp [cmdRow]; omega)
        · subst h
          exact World.rangeAt_setCells_same _ _ _ _ (there_part h1 (cmd_fit (by omega)))
      case measure => simp [intOf]; omega
    · have hiN : i = n := by omega
      subst hiN
      obtain ⟨hth, hra, hbw, hwlt⟩ := HW.out
      clear HW hth2 hbw2 hlt2 hth
      generalize wr = wa at *
      go_wp2_with (first
        | (at_make; refine wpList_make_full _ rfl _ _ 33 rfl wa.heap.size 39 i39 (.agg (outRow (.slice none 0 0)).toArray) 12 Try.underlying33 hi39 hz39 hs39 _ _ _ _ m rfl rfl rfl rfl (by rw [hb39]; omega) (by unfold maxLen; omega) (Nat.le_refl _) ?_; intro w3 hrow3 hg3)
        | go_in)
      have hth3 : w3.there wa.heap.size 0 (m * 12) := there_of_owned hrow3
      have hbw3 : Below wa.heap.size wa w3 := (Below.refl _ wa).grown hg3 (Nat.le_refl _) (fun j hj => by cases hj)
      have hlt3 : wa.heap.size < w3.heap.size := lt_of_owned hrow3
      clear hrow3 hg3
      go_loopw [8] (fun q wr => ∃ i : Nat, i ≤ m ∧ q = .int .i64 i ∧ Hid (wr.there wa.heap.size 0 (m * 12) ∧ (∀ j, j < i → wr.rangeAt wa.heap.size (j * 12) (outRow (.slice (a j) (L j) (C j)))) ∧ Below wa.heap.size wa wr ∧ wa.heap.size < wr.heap.size)) (fun q _ => m - (intOf q).toNat)
      case atStart => exact ⟨0, by omega, rfl, hth3, fun j hj => by omega, hbw3, hlt3⟩
      case round =>
        obtain ⟨t, hin, rfl, HW⟩ := hrel
        by_cases hlt : t < m
        · have hGr := hG.below (hbw.trans (HW.out.2.2.1.mono (by omega))) hB
          obtain ⟨b, o, rfl, _, hc⟩ := hGr.outer t hlt
          have hlt' : (t : Int) < (m : Int) := by omega
          have HT : Hid (wr.there wa.heap.size (t * 12) 12) := there_part HW.out.1 (by omega)
          go_wp2_with (first
            | (with_reducible refine st_here 39 ?_; refine store_out rfl _ _ rfl rfl rfl HT.out ?_)
            | go_in)
          go_roundw
          case rel =>
            obtain ⟨h1, h2, h3, h4⟩ := HW.out
            refine ⟨t + 1, by omega, by go_num, World.there_setCells h1 _ _ _, fun j hj => ?_, below_setCells (Nat.le_refl _) _ _ _ h3, by rw [size_setCells]; exact h4⟩
            rcases Nat.lt_succ_iff_lt_or_eq.1 hj with h | h
            · exact World.rangeAt_setCells_apart (h2 j h) _ _ _ (by simp [outRow]; omega)
            · subst h
              exact World.rangeAt_setCells_same _ _ _ _ (there_part h1 (out_fit (by omega)))
          case measure => simp [intOf]; omega
        · have htm : t = m := by omega
          subst htm
          go_wp2
          go_ret
          obtain ⟨h1, h2, h3, h4⟩ := HW.out
          have hb1 : Below w.heap.size w wr := hbw.trans (h3.mono (by omega))
          refine ⟨(hb1.alloc (by omega) _).alloc (by simp; omega) _, wr.heap.size + 1, rfl, ⟨wr.heap.size, w.heap.size, wa.heap.size, ?_, ?_, ?_, fun j hj => ?_, fun j hj => ?_, ?_, ?_, ?_, ?_⟩⟩
          · simp
          · simp
          · simp
          · exact World.rangeAt_alloc (World.rangeAt_alloc (rangeAt_below h3 hwlt (hra j hj)) _) _
          · exact World.rangeAt_alloc (World.rangeAt_alloc (h2 j hj) _) _
          · simp
          · simp; omega
          · simp; omega
          · simp; omega
end Go.Proofs.Qxb6628347a
