/-
  (*LogResult).Validity (8), on what buildResult lays.
-/
import Derived.Test.Qxb6628347aBuild
import Derived.Maps.OwnSet
import Derived.Maps.OwnOps
namespace Go.Proofs.Qxb6628347a
open Go.RowKit Go.Lib Go.Maps

theorem made52 (n : Int) (w : World) : (Instr.makeMap 52 (some (.int .i64 n))).run Try.prog w = .ok (.map (some w.heap.size)) (w.alloc (.map #[] 0)) := by
  simp [Instr.makeMap, run_underlying Try.underlying52, asInt, asIntOf, Result.andThen]

theorem key9 {s : ByteArray} (hs : s.size ≤ maxLen) : keyOf Try.prog 9 (.string s) = some (.string s.data.toList) := by
  simp [keyOf, mapKey, Try.underlying9, hs]

theorem ownsMap_below {H : Type} {R : Value → Option (DataW H × List MemPlace)} {B b n : Nat} {w w' : World} {D : DataW H} (h : w.ownsMap Try.prog 9 R b n D) (hb : Below B w w') (hlt : b < B) : w'.ownsMap Try.prog 9 R b n D := by
  obtain ⟨es, clock, h1, r⟩ := h
  exact ⟨es, clock, (hb.block b hlt).trans h1, r⟩

theorem rangeAt_cell {w : World} {b o j : Nat} {cs : List Value} {v : Value} (h : w.rangeAt b o cs) (hv : cs[j]? = some v) : w.cell? ⟨b, o + j, none⟩ = some v := h j v hv

theorem there_new (w : World) (c : Array Value) (t : TypeId) : (w.alloc (.cells c t)).there w.heap.size 0 c.size := fun j hj => by
  have hr := heap_alloc_new w (.cells c t)
  rw [Nat.zero_add, cell_of_row _ _ _ _ _ _ hr, Array.getElem?_eq_getElem hj]
  exact ⟨rfl, frozen_of_row _ _ _ _ _ hr⟩

section
variable {ops : Array Oper} {rest : List Oper} {op : Oper} {a : Act} {w : World} {Q : Exit → Act → World → Prop} {b o : Nat}
theorem load_cmd {s : ByteArray} (hgd : op.guard = none) (x : Operand) (ho : op.op = .load 32 x) (hx : a.eval x = .pointer (some ⟨b, o, none⟩)) (hc : w.rangeAt b o (cmdRow s))
    (h : wpList Try.prog ops Q rest (a.put op.dst (.agg #[.int .i64 1, .int .i64 1, .string s])) w) : wpList Try.prog ops Q (op :: rest) a w :=
  wpList_load_mid hgd 32 x ho b o hx (cmdRow s) _ hc Try.underlying32 rfl size32 h
theorem load_out {x1 : Option Addr} {l c : Nat} (hgd : op.guard = none) (x : Operand) (ho : op.op = .load 39 x) (hx : a.eval x = .pointer (some ⟨b, o, none⟩)) (hc : w.rangeAt b o (outRow (.slice x1 l c)))
    (h : wpList Try.prog ops Q rest (a.put op.dst (.agg #[.slice x1 l c, .int .i64 0, .int .u64 0, .int .u64 0, .int .u64 0, .int .u64 0, .int .i64 0, .int .i64 0, .int .i64 0, .bool false, .bool false, .slice none 0 0])) w) : wpList Try.prog ops Q (op :: rest) a w :=
  wpList_load_mid hgd 39 x ho b o hx (outRow (.slice x1 l c)) _ hc Try.underlying39 rfl size39 h
theorem new_cmd {c : Array Value} {t : TypeId} {s : ByteArray} (hgd : op.guard = none) (x y : Operand) (ho : op.op = .store 32 x y)
    (hx : a.eval x = .pointer (some ⟨w.heap.size, 0, none⟩)) (hy : a.eval y = .agg #[.int .i64 1, .int .i64 1, .string s]) (hc : c.size = 3)
    (h : ∀ w', Below w.heap.size w w' → w.heap.size < w'.heap.size → w'.cell? ⟨w.heap.size, 2, none⟩ = some (.string s) → wpList Try.prog ops Q rest (a.put op.dst undef) w') : wpList Try.prog ops Q (op :: rest) a (w.alloc (.cells c t)) := by
  have ht : (w.alloc (.cells c t)).there w.heap.size 0 3 := by rw [← hc]; exact there_new w c t
  refine store_cmd hgd x y ho hx hy ht (h _ (below_setCells (Nat.le_refl _) _ _ _ ((Below.refl _ w).alloc (Nat.le_refl _) _)) (by rw [size_setCells]; simp) ?_)
  have := rangeAt_cell (j := 2) (World.rangeAt_setCells_same _ _ _ (cmdRow s) ht) rfl
  simpa using this
theorem new_out {c : Array Value} {t : TypeId} {x1 : Option Addr} {l k : Nat} (hgd : op.guard = none) (x y : Operand) (ho : op.op = .store 39 x y)
    (hx : a.eval x = .pointer (some ⟨w.heap.size, 0, none⟩)) (hy : a.eval y = .agg #[.slice x1 l k, .int .i64 0, .int .u64 0, .int .u64 0, .int .u64 0, .int .u64 0, .int .i64 0, .int .i64 0, .int .i64 0, .bool false, .bool false, .slice none 0 0]) (hc : c.size = 12)
    (h : ∀ w', Below w.heap.size w w' → w.heap.size < w'.heap.size → w'.cell? ⟨w.heap.size, 0, none⟩ = some (.slice x1 l k) → wpList Try.prog ops Q rest (a.put op.dst undef) w') : wpList Try.prog ops Q (op :: rest) a (w.alloc (.cells c t)) := by
  have ht : (w.alloc (.cells c t)).there w.heap.size 0 12 := by rw [← hc]; exact there_new w c t
  refine store_out hgd x y ho hx hy ht (h _ (below_setCells (Nat.le_refl _) _ _ _ ((Below.refl _ w).alloc (Nat.le_refl _) _)) (by rw [size_setCells]; simp) ?_)
  have := rangeAt_cell (j := 0) (World.rangeAt_setCells_same _ _ _ (outRow (.slice x1 l k)) ht) rfl
  simpa using this
theorem ld_here {P : Program} (ty : TypeId) {x : Operand} {d : Option Tmp} {t : TypeId} {p : String} {af : Array Edge} {g : Option (Nat × Bool)}
    (h : wpList P ops Q (⟨d, .load ty x, t, p, af, g⟩ :: rest) a w) : wpList P ops Q (⟨d, .load ty x, t, p, af, g⟩ :: rest) a w := h
end

/-- The map in block g holds, each with true, exactly the strings S 0 .. S (i - 1). -/
structure Handed (w : World) (g i : Nat) (S : Nat → ByteArray) : Prop where
  ex : ∃ (D : DataW Value), w.ownsMap Try.prog 9 (plainElem Try.prog 4) g i D ∧ (∀ s, IsIn i S s → D.atKey (.string s.data.toList) (.lit (.bool false)) = .lit (.bool true)) ∧ (∀ s, ¬ IsIn i S s → D.atKey (.string s.data.toList) (.lit (.bool false)) = .lit (.bool false))

theorem Handed.below {B : Nat} {w w' : World} {g i : Nat} {S : Nat → ByteArray} (h : Handed w g i S) (hb : Below B w w') (hlt : g < B) : Handed w' g i S := by
  obtain ⟨D, h1, h2⟩ := h.ex
  exact ⟨D, ownsMap_below h1 hb hlt, h2⟩
theorem Handed.lt {w : World} {g i : Nat} {S : Nat → ByteArray} (h : Handed w g i S) : g < w.heap.size := by
  obtain ⟨D, h1, _⟩ := h.ex
  exact h1.lt
theorem handed_made (w : World) (S : Nat → ByteArray) : Handed (w.alloc (.map #[] 0)) w.heap.size 0 S :=
  ⟨.map [], World.ownsMap_made w Try.prog 9 _, fun s ⟨q, hq, _⟩ => by omega, fun s _ => rfl⟩
theorem bytes_inj {s t : ByteArray} (h : s.data.toList = t.data.toList) : s = t := ByteArray.ext (Array.toList_inj.mp h)
theorem handed_step {w w' : World} {g i : Nat} {S : Nat → ByteArray} {D : DataW Value} (h1 : w.ownsMap Try.prog 9 (plainElem Try.prog 4) g i D) (h2 : ∀ s, IsIn i S s → D.atKey (.string s.data.toList) (.lit (.bool false)) = .lit (.bool true)) (h3 : ∀ s, ¬ IsIn i S s → D.atKey (.string s.data.toList) (.lit (.bool false)) = .lit (.bool false))
    (h4 : w'.ownsMap Try.prog 9 (plainElem Try.prog 4) g (i + 1) (D.put (.string (S i).data.toList) (.lit (.bool true)))) : Handed w' g (i + 1) S := by
  refine ⟨_, h4, fun s hs => ?_, fun s hs => ?_⟩
  · by_cases e : s = S i
    · subst e
      exact atKey_put_same h1.isMap (by simp [WideAt.IsKeyLit]) _ _
    · rw [atKey_put_other (fun h => e (bytes_inj (by simpa using h)))]
      obtain ⟨q, hq, hqs⟩ := hs
      exact h2 s ⟨q, by rcases Nat.lt_succ_iff_lt_or_eq.1 hq with h | h; exact h; subst h; exact absurd hqs.symm e, hqs⟩
  · have e : s ≠ S i := fun e => hs ⟨i, by omega, e.symm⟩
    rw [atKey_put_other (fun h => e (bytes_inj (by simpa using h)))]
    exact h3 s (fun ⟨q, hq, hqs⟩ => hs ⟨q, by omega, hqs⟩)
theorem plainElem_bool_inv {v : Value} {x : Bool} {ps : List MemPlace} (h : plainElem (H := Value) Try.prog 4 v = some (.lit (.bool x), ps)) : v = .bool x := by
  unfold plainElem at h
  rw [Try.underlying4] at h
  cases v <;> simp at h
  rw [h.1]
theorem zero4 (w : World) : (zeroValue 4).run Try.prog w = .ok (.bool false) w := by kernel_rfl
theorem handed_look {w : World} {g i : Nat} {S : Nat → ByteArray} (h : Handed w g i S) {c : ByteArray} (hc : c.size ≤ maxLen) :
    ∃ b : Bool, (Instr.lookup 52 (.map (some g)) (.string c) false).run Try.prog w = .ok (.bool b) w ∧ Hid (b = true ↔ IsIn i S c) := by
  obtain ⟨D, h1, h2, h3⟩ := h.ex
  obtain ⟨v, ps, hrun, hv⟩ := h1.lookup (string_keyed Try.underlying9) Try.underlying52 (zero4 w) (plainElem_bool Try.underlying4 false) (key9 hc)
  by_cases hin : IsIn i S c
  · rw [h2 c hin] at hv
    rw [plainElem_bool_inv hv] at hrun
    exact ⟨true, hrun, ⟨fun _ => hin, fun _ => rfl⟩⟩
  · rw [h3 c hin] at hv
    rw [plainElem_bool_inv hv] at hrun
    exact ⟨false, hrun, ⟨(fun h => by cases h), fun h => absurd h hin⟩⟩

set_option maxRecDepth 100000 in
set_option maxHeartbeats 400000 in
theorem valid_any (p n : Nat) (S : Nat → ByteArray) (m : Nat) (a : Nat → Option Addr) (L C : Nat → Nat) (T : Nat → Nat → ByteArray) (w : World) (hR : Res w.heap.size w p n S m (fun i => .slice (a i) (L i) (C i)))
    (hI : ∀ i, i < m → Strs w.heap.size w (a i) (L i) (T i)) (hsm : ∀ j, j < n → (S j).size ≤ maxLen) (hn : n ≤ 4294967296) (hm : m ≤ 4294967296) :
    Calls Try.prog 8 #[.pointer (some ⟨p, 0, none⟩)] w fun e w' => Says e (AllIn n S m L T) ∧ Below w.heap.size w w' := by
  have hmm := made52
  obtain ⟨q, g1, g2, c1, c2, c3, r1, r2, b1, b2, b3, b4⟩ := hR.ex
  have R1 : Hid (∀ j, j < n → w.rangeAt g1 (j * 3) (cmdRow (S j))) := r1
  have R2 : Hid (∀ i, i < m → w.rangeAt g2 (i * 12) (outRow (.slice (a i) (L i) (C i)))) := r2
  have C3 : Hid (w.cell? ⟨p, 3, none⟩ = some (.slice (some ⟨g2, 0, none⟩) m m)) := c3
  clear r1 r2 hR c3
  go_enter Try.func8, Try.ntmps8
  go_wp2
  have hmd := handed_made w S
  go_loopw [27] (fun q wr => ∃ i : Nat, i ≤ n ∧ q = .int .i64 i ∧ Hid (Handed wr w.heap.size i S ∧ Below w.heap.size w wr)) (fun q _ => n - (intOf q).toNat)
  case atStart => exact ⟨0, by omega, rfl, hmd, (Below.refl _ w).alloc (Nat.le_refl _) _⟩
  case round =>
    obtain ⟨i, hin, rfl, HW⟩ := hrel
    have hglt := HW.out.1.lt
    by_cases hlt : i < n
    · have RI : Hid (wr.rangeAt g1 (i * 3) (cmdRow (S i))) := rangeAt_below HW.out.2 b3 (R1.out i hlt)
      have hlt' : (i : Int) < (n : Int) := by omega
      have hsi := hsm i hlt
      clear hmd
      go_wp2_with (first
        | (with_reducible refine ld_here 32 ?_; refine load_cmd rfl _ rfl rfl RI.out ?_)
        | (with_reducible refine st_here 32 ?_; refine new_cmd rfl _ _ rfl rfl rfl rfl ?_; intro w5 hb5 hs5 hc5)
        | (at_mapUpdate; obtain ⟨D, h1, h2, h3⟩ := (HW.out.1.below hb5 hglt).ex; refine wpList_mapUpdate_own _ rfl _ _ _ 52 rfl 9 4 (string_keyed Try.underlying9) Try.underlying52 (plainElem Try.prog 4) w.heap.size i D rfl h1 (by unfold maxLen; omega) _ _ (.string (S i).data.toList) rfl rfl (key9 hsi) (.lit (.bool true)) [] (plainElem_bool Try.underlying4 true) ?_; intro w6 hown6 hg6)
        | go_in)
      go_roundw
      case rel =>
        refine ⟨i + 1, by omega, by go_num, handed_step h1 h2 h3 hown6, ?_⟩
        exact ((HW.out.2.trans (hb5.mono (by omega))).grown hg6 (by omega) (fun j hj => by cases hj; omega))
      case measure => simp [intOf]; omega
    · have hiN : i = n := by omega
      subst hiN
      obtain ⟨hH, hbw⟩ := HW.out
      have c3 : wr.cell? ⟨p, 3, none⟩ = some (.slice (some ⟨g2, 0, none⟩) m m) := by rw [hbw.cell (show p < w.heap.size from b1)]; exact C3.out
      have R2' : Hid (∀ t, t < m → wr.rangeAt g2 (t * 12) (outRow (.slice (a t) (L t) (C t)))) := fun t ht => rangeAt_below hbw b4 (R2.out t ht)
      have HI : Hid (∀ i, i < m → Strs w.heap.size wr (a i) (L i) (T i)) := fun i hi => (hI i hi).below hbw (Nat.le_refl _)
      clear HW hmd R1 R2 C3 hI c1 c2
      generalize wr = wa at *
      go_wp2
      go_loopw [40] (fun q wr => ∃ t : Nat, t ≤ m ∧ q = .int .i64 t ∧ Hid (AllIn i S t L T ∧ Below wa.heap.size wa wr)) (fun q _ => m - (intOf q).toNat)
      case atStart => exact ⟨0, by omega, rfl, fun t ht => by omega, Below.refl _ _⟩
      case round =>
        obtain ⟨t, htm, rfl, HW⟩ := hrel
        by_cases hlt : t < m
        · have RI : Hid (wr.rangeAt g2 (t * 12) (outRow (.slice (a t) (L t) (C t)))) := rangeAt_below HW.out.2 (by omega) (R2'.out t hlt)
          have hlt' : (t : Int) < (m : Int) := by omega
          clear c3
          go_wp2_with (first
            | (with_reducible refine ld_here 39 ?_; refine load_out rfl _ rfl rfl RI.out ?_)
            | (with_reducible refine st_here 39 ?_; refine new_out rfl _ _ rfl rfl rfl rfl ?_; intro w5 hb5 hs5 hc5)
            | go_in)
          have hb6 : Below wa.heap.size wa w5 := HW.out.2.trans (hb5.mono HW.out.2.size)
          have hH5 := hH.below hb6 hglt
          have hI5 := (HI.out t hlt).below hb6 (by omega)
          have hil := hI5.len
          go_loop [47] (fun q => ∃ j : Nat, j ≤ L t ∧ q = .int .i64 j ∧ Hid (∀ u, u < j → IsIn i S (T t u))) (fun q => L t - (intOf q).toNat)
          case atStart => exact ⟨0, by omega, rfl, fun u hu => by omega⟩
          case round =>
            obtain ⟨j, hj, rfl, hjn⟩ := hrel
            by_cases hjl : j < L t
            · obtain ⟨b, o, ha, _, hc2⟩ := hI5.cells j hjl
              rw [ha] at *
              have hjl' : (j : Int) < (L t : Int) := by omega
              obtain ⟨bb, hlook, HB⟩ := handed_look hH5 (hI5.small j hjl)
              cases bb
              · go_wp2
                go_ret
                exact ⟨Says.no (fun h => by have := HB.out.2 (h t hlt j hjl); cases this), hbw.trans (hb6.mono (by omega))⟩
              · go_wp2
                go_round
                case rel => exact ⟨j + 1, by omega, by go_num, fun u hu => by
                  rcases Nat.lt_succ_iff_lt_or_eq.1 hu with h | h
                  · exact hjn.out u h
                  · subst h; exact HB.out.1 rfl⟩
                case measure => simp [intOf]; omega
            · go_wp2
              go_roundw
              case rel => exact ⟨t + 1, by omega, by go_num, fun t' ht => by
                  rcases Nat.lt_succ_iff_lt_or_eq.1 ht with h | h
                  · exact HW.out.1 t' h
                  · subst h; exact fun j' hj' => hjn.out j' (by omega), hb6⟩
              case measure => simp [intOf]; omega
        · go_wp2
          go_ret
          exact ⟨Says.yes (fun i' hi' => HW.out.1 i' (by omega)), hbw.trans (HW.out.2.mono (by omega))⟩
end Go.Proofs.Qxb6628347a
