/-
  zzCopyBytes (7).
-/
import Derived.Test.Qxb6628404aDoorLeaf
import Derived.OwnWalk
import Derived.Lib.SliceRun
namespace Go.Proofs.Qxb6628404aDoor
open Go.RowKit Go.Lib

theorem info5 : (Tryd.prog.info? 5).map (fun i => (i.zero, i.size, i.bytes)) = some (some (.int .u8 0), 1, 1) := by kernel_rfl

/-- A copy: bytes of its own, in memory that was not there before. -/
structure Copied (w w' : World) (e : Ending) (n : Nat) (f : Nat → UInt8) : Prop where
  ex : ∃ A c, e = .returned (.slice A n c) ∧ n ≤ c ∧ c ≤ maxLen ∧ Byt w'.heap.size w' A n f

set_option maxRecDepth 100000 in
set_option maxHeartbeats 400000 in
theorem copy_any (B : Nat) (A : Option Addr) (n c : Nat) (f : Nat → UInt8) (w : World) (hB : B ≤ w.heap.size) (hS : Byt B w A n f) (hn : n ≤ 1048576) (hA : A = none → n = 0) :
    Calls Tryd.prog 7 #[.slice A n c] w fun e w' => Copied w w' e n f ∧ Below w.heap.size w w' := by
  obtain ⟨i5, hi5, hz5, hs5, hb5⟩ := info_parts info5
  have q22 : ∀ (w : World) (a : Option Addr) (n c n' c' : Nat), (binOp .eql 22 (.slice a n c) (.slice none n' c')).run Tryd.prog w = .ok (.bool a.isNone) w := fun w a n c n' c' => Lib.run_eql_slice_nil w _ _ a n c n' c' Tryd.underlying22
  cases A with
  | none =>
    have hn0 := hA rfl
    subst hn0
    go_enter Tryd.func7, Tryd.ntmps7
    go_wp2
    go_ret
    exact ⟨⟨none, 0, rfl, Nat.le_refl _, by unfold maxLen; omega, ⟨fun j hj => by omega, by omega⟩⟩, Below.refl _ _⟩
  | some ad =>
    go_enter Tryd.func7, Tryd.ntmps7
    go_wp2_with (first
      | (at_make; refine wpList_make_full _ rfl _ _ 22 rfl w.heap.size 5 i5 (.int .u8 0) 1 Tryd.underlying22 hi5 hz5 hs5 _ _ _ _ n rfl rfl rfl rfl (by rw [hb5]; omega) (by unfold maxLen; omega) (Nat.le_refl _) ?_; intro w2 hrow2 hg2)
      | go_in)
    have hbw2 : Below w.heap.size w w2 := (Below.refl _ w).grown hg2 (Nat.le_refl _) (fun j hj => by cases hj)
    obtain ⟨cs0, hr0, hs0⟩ : ∃ cs0 : Array Value, w2.heap[w.heap.size]? = some (.cells cs0 5 (0, 0)) ∧ cs0.size = n := by
      rcases hrow2.2 with ⟨h, _⟩ | ⟨g', cap', cur, h, _, h1, h2, h3, h4, h5⟩
      · cases h
      · cases h
        exact ⟨cur, h1, by omega⟩
    clear hrow2 hg2
    go_loopw [4] (fun q wr => ∃ i : Nat, i ≤ n ∧ q = .int .i64 i ∧ Hid (Below w.heap.size w wr ∧ ∃ cs : Array Value, wr.heap[w.heap.size]? = some (.cells cs 5 (0, 0)) ∧ cs.size = n ∧ ∀ j, j < i → cs[j]? = some (.int .u8 ((f j).toNat : Int)))) (fun q _ => n - (intOf q).toNat)
    case atStart => exact ⟨0, by omega, rfl, hbw2, cs0, hr0, hs0, fun j hj => by omega⟩
    case round =>
      obtain ⟨i, hi, rfl, HW⟩ := hrel
      by_cases hlt : i < n
      · obtain ⟨b, o, had, hbB, hc⟩ := (hS.below HW.out.1 hB).cells i hlt
        cases had
        obtain ⟨hbw, cs, hr, hs, hcs⟩ := HW.out
        have hlt' : (i : Int) < (n : Int) := by omega
        have hcell : ∃ v, wr.cell? ⟨w.heap.size, i, none⟩ = some v := ⟨cs[i]'(by omega), by rw [cell_of_row _ _ _ _ _ _ hr, Array.getElem?_eq_getElem (by omega)]⟩
        obtain ⟨v, hcv⟩ := hcell
        have hfz : wr.frozen? ⟨w.heap.size, i, none⟩ = false := frozen_of_row _ _ _ _ _ hr
        have HR : Hid (Below w.heap.size w wr ∧ wr.heap[w.heap.size]? = some (.cells cs 5 (0, 0)) ∧ cs.size = n ∧ ∀ j, j < i → cs[j]? = some (.int .u8 ((f j).toNat : Int))) := ⟨hbw, hr, hs, hcs⟩
        clear HW hbw hr hs hcs hr0 hs0
        go_wp2
        go_roundw
        case rel =>
          obtain ⟨hbw, hr, hs, hcs⟩ := HR.out
          refine ⟨i + 1, by omega, by go_num, hbw.setCell (Nat.le_refl _) _, _, heap_setCell_same _ _ _ _ _ _ hr, by simpa using hs, fun j hj => ?_⟩
          rw [Array.getElem?_setIfInBounds]
          by_cases hji : i = j
          · subst hji
            rw [if_pos rfl, if_pos (by omega)]
          · rw [if_neg hji]
            exact hcs j (by omega)
        case measure => simp [intOf]; omega
      · have hin : n = i := by omega
        subst hin
        obtain ⟨hbw, cs, hr, hs, hcs⟩ := HW.out
        clear HW
        go_wp2
        go_ret
        refine ⟨⟨some ⟨w.heap.size, 0, none⟩, n, rfl, Nat.le_refl _, by unfold maxLen; omega, ⟨fun j hj => ⟨w.heap.size, 0, rfl, (Array.getElem?_eq_some_iff.1 hr).1, ?_⟩, by omega⟩⟩, hbw⟩
        rw [Nat.zero_add, cell_of_row _ _ _ _ _ _ hr]
        exact hcs j hj
end Go.Proofs.Qxb6628404aDoor
