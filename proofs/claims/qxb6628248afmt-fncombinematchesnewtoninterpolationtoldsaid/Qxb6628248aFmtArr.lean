/-
  THE ARRAYS xs, rows, d OF THE LAW; the map as the law sees it.
-/
import Derived.Test.Qxb6628248aFmtTab
import Derived.Test.Qxb6628248aFmtComb
import Derived.Test.Qxb6628248aFmtComb2
import Derived.Test.Qxb6628248aFmtSt
namespace Go.Proofs.Qxb6628248aFmt
open Go.RowKit Go.Maps Go.Sort
open Go.Extern.Stop Go.Stop Go.Extern
open Gf

theorem Hid.mk {p : Prop} (h : p) : Hid p := h

/-- The map as the law sees it. -/
structure MapI (w : World) (mv : Value) (M : Nat) (has : Int → Bool) (sa : Int → Option Addr) (ln sc : Int → Nat) (byt : Int → Nat → UInt8) : Prop where
  len : ∀ wr, Below w.heap.size w wr → ∀ ty, (Builtin.len_ #[22] ty #[mv]).run Tryf.prog wr = .ok (.int .i64 M) wr
  look : ∀ wr, Below w.heap.size w wr → ∀ x, (Lit.int .i64 x).wf = true → (Instr.lookup 22 mv (.int .i64 x) true).run Tryf.prog wr = .ok (.tuple #[.slice (sa x) (ln x) (sc x), .bool (has x)]) wr
  cells : ∀ x i, has x = true → i < ln x → ∃ c o, sa x = some ⟨c, o, none⟩ ∧ c < w.heap.size ∧ w.cell? ⟨c, o + i, none⟩ = some (.int .u8 ((byt x i).toNat : Int))
  big : ∀ x, ln x ≤ 4611686018427387904

/-- The array xs holds the keys met so far. -/
def XsAt (wr : World) (g : Nat) (l : List Nat) : Prop := ∃ cx : Array Value, wr.heap[g]? = some (.cells cx 25 (0, 0)) ∧ cx.size = 255 ∧ ∀ i, i < l.length → cx[i]? = some (.int .u8 ((l.getD i 0 : Nat) : Int))
/-- The array rows holds their shares. -/
def RowsAt (wr : World) (g : Nat) (sa : Int → Option Addr) (ln sc : Int → Nat) (l : List Nat) : Prop := ∃ cr : Array Value, wr.heap[g]? = some (.cells cr 26 (0, 0)) ∧ cr.size = 255 ∧ ∀ i, i < l.length → cr[i]? = some (.slice (sa (l.getD i 0 : Nat)) (ln (l.getD i 0 : Nat)) (sc (l.getD i 0 : Nat)))
theorem z25_size : z25.size = 255 := by unfold z25; simp only [List.size_toArray, List.length_replicate]
theorem z26_size : z26.size = 255 := by unfold z26; simp only [List.size_toArray, List.length_replicate]
theorem getD_snoc_lt {l : List Nat} {a i : Nat} (h : i < l.length) : (l ++ [a]).getD i 0 = l.getD i 0 := by
  simp [List.getD, List.getElem?_append_left h]
theorem getD_snoc_eq {l : List Nat} {a : Nat} : (l ++ [a]).getD l.length 0 = a := by
  simp [List.getD]
theorem XsAt.cell {wr : World} {g : Nat} {l : List Nat} (h : XsAt wr g l) (i : Nat) (hi : i < l.length) : wr.cell? ⟨g, i, none⟩ = some (.int .u8 ((l.getD i 0 : Nat) : Int)) := by
  obtain ⟨cx, h1, h2, h3⟩ := h
  rw [cell_of_row _ _ _ _ _ _ h1, h3 i hi]
theorem RowsAt.cell {wr : World} {g : Nat} {sa : Int → Option Addr} {ln sc : Int → Nat} {l : List Nat} (h : RowsAt wr g sa ln sc l) (i : Nat) (hi : i < l.length) : wr.cell? ⟨g, i, none⟩ = some (.slice (sa (l.getD i 0 : Nat)) (ln (l.getD i 0 : Nat)) (sc (l.getD i 0 : Nat))) := by
  obtain ⟨cx, h1, h2, h3⟩ := h
  rw [cell_of_row _ _ _ _ _ _ h1, h3 i hi]
theorem XsAt.room {wr : World} {g : Nat} {l : List Nat} (h : XsAt wr g l) (i : Nat) (hi : i < 255) : ∃ v, wr.cell? ⟨g, i, none⟩ = some v := by
  obtain ⟨cx, h1, h2, h3⟩ := h
  rw [cell_of_row _ _ _ _ _ _ h1]
  exact ⟨_, Array.getElem?_eq_getElem (by omega)⟩
theorem RowsAt.room {wr : World} {g : Nat} {sa : Int → Option Addr} {ln sc : Int → Nat} {l : List Nat} (h : RowsAt wr g sa ln sc l) (i : Nat) (hi : i < 255) : ∃ v, wr.cell? ⟨g, i, none⟩ = some v := by
  obtain ⟨cx, h1, h2, h3⟩ := h
  rw [cell_of_row _ _ _ _ _ _ h1]
  exact ⟨_, Array.getElem?_eq_getElem (by omega)⟩
theorem XsAt.frozen {wr : World} {g : Nat} {l : List Nat} (h : XsAt wr g l) (i : Nat) : wr.frozen? ⟨g, i, none⟩ = false := by
  obtain ⟨cx, h1, _⟩ := h
  exact frozen_of_row _ _ _ _ _ h1
theorem RowsAt.frozen {wr : World} {g : Nat} {sa : Int → Option Addr} {ln sc : Int → Nat} {l : List Nat} (h : RowsAt wr g sa ln sc l) (i : Nat) : wr.frozen? ⟨g, i, none⟩ = false := by
  obtain ⟨cx, h1, _⟩ := h
  exact frozen_of_row _ _ _ _ _ h1
theorem XsAt.snoc {wr : World} {g : Nat} {l : List Nat} (h : XsAt wr g l) (a : Nat) (hl : l.length < 255) : XsAt (wr.setCell ⟨g, l.length, none⟩ (.int .u8 (a : Int))) g (l ++ [a]) := by
  obtain ⟨cx, h1, h2, h3⟩ := h
  refine ⟨_, heap_setCell_same _ _ _ _ _ _ h1, by simpa using h2, fun i hi => ?_⟩
  rw [Array.getElem?_setIfInBounds]
  by_cases hil : l.length = i
  · subst hil
    rw [if_pos rfl, if_pos (by omega), getD_snoc_eq]
  · have : i < l.length := by simp at hi; omega
    rw [if_neg hil, h3 i this, getD_snoc_lt this]
theorem RowsAt.snoc {wr : World} {g : Nat} {sa : Int → Option Addr} {ln sc : Int → Nat} {l : List Nat} (h : RowsAt wr g sa ln sc l) (a : Nat) (hl : l.length < 255) : RowsAt (wr.setCell ⟨g, l.length, none⟩ (.slice (sa (a : Nat)) (ln (a : Nat)) (sc (a : Nat)))) g sa ln sc (l ++ [a]) := by
  obtain ⟨cx, h1, h2, h3⟩ := h
  refine ⟨_, heap_setCell_same _ _ _ _ _ _ h1, by simpa using h2, fun i hi => ?_⟩
  rw [Array.getElem?_setIfInBounds]
  by_cases hil : l.length = i
  · subst hil
    rw [if_pos rfl, if_pos (by omega), getD_snoc_eq]
  · have : i < l.length := by simp at hi; omega
    rw [if_neg hil, h3 i this, getD_snoc_lt this]
theorem XsAt.snoc1 {wr : World} {g : Nat} {l : List Nat} (h : XsAt wr g l) (k : Nat) (hl : l.length < 255) : XsAt (wr.setCell ⟨g, l.length, none⟩ (.int .u8 ((k : Int) + 1))) g (l ++ [k + 1]) := by
  have := h.snoc (k + 1) hl
  rwa [show ((k + 1 : Nat) : Int) = (k : Int) + 1 from by omega] at this
theorem RowsAt.snoc1 {wr : World} {g : Nat} {sa : Int → Option Addr} {ln sc : Int → Nat} {l : List Nat} (h : RowsAt wr g sa ln sc l) (k : Nat) (hl : l.length < 255) : RowsAt (wr.setCell ⟨g, l.length, none⟩ (.slice (sa ((k : Int) + 1)) (ln ((k : Int) + 1)) (sc ((k : Int) + 1)))) g sa ln sc (l ++ [k + 1]) := by
  have := h.snoc (k + 1) hl
  rwa [show ((k + 1 : Nat) : Int) = (k : Int) + 1 from by omega] at this
theorem XsAt.other {wr : World} {g : Nat} {l : List Nat} (h : XsAt wr g l) {a : Addr} (ha : g ≠ a.block) (v : Value) : XsAt (wr.setCell a v) g l := by
  obtain ⟨cx, h1, r⟩ := h
  exact ⟨cx, by rw [heap_setCell_other _ _ _ _ ha]; exact h1, r⟩
theorem RowsAt.other {wr : World} {g : Nat} {sa : Int → Option Addr} {ln sc : Int → Nat} {l : List Nat} (h : RowsAt wr g sa ln sc l) {a : Addr} (ha : g ≠ a.block) (v : Value) : RowsAt (wr.setCell a v) g sa ln sc l := by
  obtain ⟨cx, h1, r⟩ := h
  exact ⟨cx, by rw [heap_setCell_other _ _ _ _ ha]; exact h1, r⟩
theorem XsAt.below {wr wq : World} {g B : Nat} {l : List Nat} (h : XsAt wr g l) (hb : Below B wr wq) (hg : g < B) : XsAt wq g l := by
  obtain ⟨cx, h1, r⟩ := h
  exact ⟨cx, by rw [hb.block g hg]; exact h1, r⟩
theorem RowsAt.below {wr wq : World} {g B : Nat} {sa : Int → Option Addr} {ln sc : Int → Nat} {l : List Nat} (h : RowsAt wr g sa ln sc l) (hb : Below B wr wq) (hg : g < B) : RowsAt wq g sa ln sc l := by
  obtain ⟨cx, h1, r⟩ := h
  exact ⟨cx, by rw [hb.block g hg]; exact h1, r⟩

/-- The array d holds f's first i values. -/
def DTo (w : World) (g i : Nat) (f : Nat → UInt8) : Prop := ∃ cd : Array Value, w.heap[g]? = some (.cells cd 25 (0, 0)) ∧ cd.size = 255 ∧ ∀ t, t < i → cd[t]? = some (.int .u8 ((f t).toNat : Int))
theorem DTo.cell {w : World} {g i : Nat} {f : Nat → UInt8} (h : DTo w g i f) (t : Nat) (ht : t < i) : w.cell? ⟨g, t, none⟩ = some (.int .u8 ((f t).toNat : Int)) := by
  obtain ⟨cd, h1, h2, h3⟩ := h
  rw [cell_of_row _ _ _ _ _ _ h1, h3 t ht]
theorem DTo.room {w : World} {g i : Nat} {f : Nat → UInt8} (h : DTo w g i f) (t : Nat) (ht : t < 255) : ∃ v, w.cell? ⟨g, t, none⟩ = some v := by
  obtain ⟨cd, h1, h2, h3⟩ := h
  rw [cell_of_row _ _ _ _ _ _ h1]
  exact ⟨_, Array.getElem?_eq_getElem (by omega)⟩
theorem DTo.frozen {w : World} {g i : Nat} {f : Nat → UInt8} (h : DTo w g i f) (t : Nat) : w.frozen? ⟨g, t, none⟩ = false := by
  obtain ⟨cd, h1, _⟩ := h
  exact frozen_of_row _ _ _ _ _ h1
theorem DTo.set {w : World} {g i : Nat} {f : Nat → UInt8} (h : DTo w g i f) (t : Nat) (x : UInt8) (ht : t < 255) : DTo (w.setCell ⟨g, t, none⟩ (.int .u8 (x.toNat : Int))) g i (fun s => if s = t then x else f s) := by
  obtain ⟨cd, h1, h2, h3⟩ := h
  refine ⟨_, heap_setCell_same _ _ _ _ _ _ h1, by simpa using h2, fun s hs => ?_⟩
  rw [Array.getElem?_setIfInBounds]
  dsimp only
  by_cases hst : t = s
  · subst hst
    rw [if_pos rfl, if_pos (by omega), if_pos rfl]
  · rw [if_neg hst, h3 s hs, if_neg (fun e : s = t => hst e.symm)]
theorem DTo.push {w : World} {g i : Nat} {f : Nat → UInt8} (h : DTo w g i f) (hi : i < 255) : DTo (w.setCell ⟨g, i, none⟩ (.int .u8 ((f i).toNat : Int))) g (i + 1) f := by
  obtain ⟨cd, h1, h2, h3⟩ := h
  refine ⟨_, heap_setCell_same _ _ _ _ _ _ h1, by simpa using h2, fun s hs => ?_⟩
  rw [Array.getElem?_setIfInBounds]
  by_cases hst : i = s
  · subst hst
    rw [if_pos rfl, if_pos (by omega)]
  · rw [if_neg hst, h3 s (by omega)]
theorem DTo.congr {w : World} {g i : Nat} {f f' : Nat → UInt8} (h : DTo w g i f) (e : ∀ t, t < i → f t = f' t) : DTo w g i f' := by
  obtain ⟨cd, h1, h2, h3⟩ := h
  exact ⟨cd, h1, h2, fun t ht => by rw [← e t ht]; exact h3 t ht⟩
theorem DTo.drew {w : World} {g i : Nat} {f : Nat → UInt8} (h : DTo w g i f) : DTo w.drew g i f := h
theorem DTo.drewN {w : World} {g i : Nat} {f : Nat → UInt8} (h : DTo w g i f) (n : Nat) : DTo (w.drewN n) g i f := h
theorem below_drewN' {B : Nat} {a w : World} (h : Below B a w) (n : Nat) : Below B a (w.drewN n) := ⟨h.os, h.tape, h.output, h.size, h.block⟩
theorem TabAt.below {w w' : World} {b B : Nat} (h : TabAt w b) (hb : Below B w w') (hB : b < B) : TabAt w' b :=
  ⟨fun i hi => by rw [hb.cell hB]; exact h.1 i hi, fun x => by rw [hb.cell hB]; exact h.2 x⟩
/-- What d holds after k - 1 rounds of the divided differences. -/
def stage (p : Nat → UInt8 × UInt8) (k t : Nat) : UInt8 := if t < k - 1 then dd p t t else dd p (k - 1) t
theorem gfDivZ (b : Nat) (x y : UInt8) (w : World) (hy : y ≠ 0) (ht : TabAt w b) :
    Calls Tryf.prog 5 #[.pointer (some ⟨b, 0, none⟩), .int .u8 (x.toNat : Int), .int .u8 (y.toNat : Int)] w fun e w' => e = .returned (.int .u8 ((gm x (gi y)).toNat : Int)) ∧ ∃ n, w' = w.drewN n := gfDiv_any b x y w hy ht


/-- The world behind gfNew, the table's copy, want's make and d's laying. -/
theorem after_make {wr w1 w2 : World} {cs : Array Value} {L base : Nat} {xs : List Value} (hw1s : w1.heap.size = wr.heap.size + 2) (hb1 : Below wr.heap.size wr w1) (hcs : ∀ i, i < 766 → cs[i]? = some (tabF 255 i))
    (hg2 : ((w1.alloc (.cells z30 30)).setRow (wr.heap.size + 2) cs).grownBy w2 none) (hrow2 : w2.ownsRow base 5 1 (.slice (some ⟨((w1.alloc (.cells z30 30)).setRow (wr.heap.size + 2) cs).heap.size, 0, none⟩) L L) L xs) :
    Below wr.heap.size wr (w2.alloc (.cells z25 25)) ∧ TabAt (w2.alloc (.cells z25 25)) (wr.heap.size + 2) ∧ (∃ cw : Array Value, (w2.alloc (.cells z25 25)).heap[wr.heap.size + 2 + 1]? = some (.cells cw 5 (0, 0)) ∧ cw.size = L) ∧ wr.heap.size + 2 + 1 < w2.heap.size := by
  have esz : ((w1.alloc (.cells z30 30)).setRow (wr.heap.size + 2) cs).heap.size = wr.heap.size + 2 + 1 := by simp [hw1s]
  rw [esz] at hrow2
  have hA : Below w1.heap.size w1 ((w1.alloc (.cells z30 30)).setRow (wr.heap.size + 2) cs) := ⟨rfl, rfl, rfl, by simp, fun q hq => by rw [setRow_other _ _ _ _ (by omega)]; exact Below.heap_alloc _ _ _ hq⟩
  have hs2 := hg2.size
  rw [esz] at hs2
  have hB : Below (wr.heap.size + 2 + 1) ((w1.alloc (.cells z30 30)).setRow (wr.heap.size + 2) cs) (w2.alloc (.cells z25 25)) := ((Below.refl _ _).grown hg2 (by rw [esz]; exact Nat.le_refl _) (fun q hq => by cases hq)).alloc hs2 _
  have hrow : ((w1.alloc (.cells z30 30)).setRow (wr.heap.size + 2) cs).heap[wr.heap.size + 2]? = some (.cells cs 30 (0, 0)) := by
    refine setRow_heap _ _ z30 _ _ _ ?_
    rw [← hw1s]
    show (w1.heap.push _)[w1.heap.size]? = _
    simp
  rcases hrow2.2 with ⟨h, _⟩ | ⟨g, cap, cur, h, _, h1, _, _, h2, _⟩
  · cases h
  · cases h
    have hlt := (Array.getElem?_eq_some_iff.1 h1).1
    refine ⟨(hb1.trans (hA.mono (by omega))).trans (hB.mono (by omega)), (tabAt_of hrow hcs).below hB (Nat.lt_succ_self _), ⟨cur, ?_, by omega⟩, hlt⟩
    rw [Below.heap_alloc _ _ _ hlt]
    exact h1
end Go.Proofs.Qxb6628248aFmt
