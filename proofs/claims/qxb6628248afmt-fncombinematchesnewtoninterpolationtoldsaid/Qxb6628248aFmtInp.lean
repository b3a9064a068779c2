/-
  THE MAP THAT CAME IN: from its reading to what the walk takes.
-/
import Derived.Test.Qxb6628248aFmtLaw
import Derived.Test.Qxb6628248aFmtSort
import Derived.ProofKit
import Derived.SizedLaws
namespace Go.Proofs.Qxb6628248aFmt
open Go.RowKit Go.Maps Go.Sort
open Go.Extern.Stop Go.Stop Go.Extern
open Go.ChangeShapes Go.WideShapes Go.ChangeAt
open Go.WideElems (Fit rd rg pl rd_key rd_val rg_of elemAt)
open Gf

theorem cells5 : Tryf.prog.cellsOf 5 = 1 := by kernel_rfl
theorem bytes5 : Tryf.prog.bytesOf 5 = 1 := by kernel_rfl
theorem byte_of {x : Int} (h : (Lit.int .u8 x).wf = true) : ((UInt8.ofNat x.toNat).toNat : Int) = x := by
  have hb : 0 ≤ x ∧ x ≤ 255 := by simpa [Lit.wf, IntKind.min, IntKind.max, IntKind.signed, IntKind.bits] using h
  rw [UInt8.toNat_ofNat_of_lt' (by show x.toNat < 256; omega)]
  omega

section
variable {H : Type} {enc : TypeId × Value → H} {W : World} {m : Nat}
theorem elem_open {v : Value} {z : DataW H × List MemPlace} (h : elemAt enc Tryf.prog W 0 (fun _ => true) true m 23 v = some z) :
    ∃ (a : Option Addr) (n c : Nat) (f : Nat → UInt8), v = .slice a n c ∧ (∀ i, i < n → ∃ b o, a = some ⟨b, o, none⟩ ∧ b < W.heap.size ∧ W.cell? ⟨b, o + i, none⟩ = some (.int .u8 ((f i).toNat : Int))) ∧
      (∀ N, (∀ x ∈ z.1.weights Tryf.prog 23, x ≤ N) → n ≤ N) := by
  unfold elemAt at h
  split at h
  case isFalse => cases h
  case isTrue hfm =>
    rcases open_ints Tryf.underlying23 Tryf.underlying5 cells5 h with ⟨hcs, hx⟩ | ⟨a, len, cap, zs, hcs, _, hl, hm, hz, hx, hcell, hwz⟩
    · have hv : v = .slice none 0 0 := by
        cases v <;> simp [Value.cells, Value.formed, Tryf.underlying23] at hcs hfm ⊢
        exact hcs
      exact ⟨none, 0, 0, fun _ => 0, hv, fun i hi => by omega, fun N _ => Nat.zero_le _⟩
    · have hv : v = .slice (some a) len cap := by
        cases v <;> simp [Value.cells, Value.formed, Tryf.underlying23] at hcs hfm ⊢
        exact hcs
      simp only [if_true] at hz
      refine ⟨some a, len, cap, fun i => UInt8.ofNat (zs.getD i 0).toNat, hv, fun i hi => ?_, fun N hN => ?_⟩
      · obtain ⟨b, off, spot⟩ := a
        have hc := hcell i (by omega)
        have hspot : spot = none := by simpa [Addr.add] using World.cell?_spot (hcell 0 (by omega))
        subst hspot
        rw [add_plain] at hc
        refine ⟨b, off, rfl, World.block_lt_of_cell? _ _ hc, ?_⟩
        rw [hc, byte_of (hwz _ ?_)]
        have : i < zs.length := by omega
        rw [List.getD_eq_getElem?_getD, List.getElem?_eq_getElem this]
        exact List.getElem_mem this
      · have := hN ((zs.take len).length + (zs.drop len).length) (by
          rw [hx]
          simp [DataW.weights, Tryf.underlying23, bytes5, lits])
        simp at this
        omega
variable {bm : Nat} {es : Array MapEntry} {clock : Nat}
theorem fit_RS (F : Fit Tryf.prog 3 (elemAt enc Tryf.prog W 0 (fun _ => true) true m 23) es clock) : Fit Tryf.prog 3 RS es clock := by
  refine ⟨F.size, F.stamped, fun x hx => ?_⟩
  obtain ⟨y, hy⟩ := F.reads x hx
  obtain ⟨z, hz, _⟩ := rd_val hy
  obtain ⟨a, n, c, f, hv, _⟩ := elem_open hz
  refine ⟨(y.1, .held x.val), ?_⟩
  simp [WideElems.rd, rd_key hy, hv, RS]

/-- An entry's weights are among the map's. -/
theorem entry_weights {e : TypeId} {entries : List (Lit × DataW H)} {p : Lit × DataW H} (hp : p ∈ entries) {x : Nat} (hx : x ∈ p.2.weights Tryf.prog e) : x ∈ DataW.weightsEntries Tryf.prog e entries := by
  induction entries with
  | nil => cases hp
  | cons q r ih =>
    rw [DataW.weightsEntries]
    rcases List.mem_cons.1 hp with rfl | hp
    · refine List.mem_append_left _ ?_
      obtain ⟨l, d⟩ := p
      cases l <;> simp [DataW.weightsEntry] <;> first | exact hx | exact .inr hx
    · exact List.mem_append_right _ (ih hp)

/-- What the walk takes of the map. -/
theorem inp_of (hb : W.heap[bm]? = some (.map es clock)) (F : Fit Tryf.prog 3 (elemAt enc Tryf.prog W 0 (fun _ => true) true m 23) es clock)
    (hsz : ∀ x ∈ DataW.weightsEntries Tryf.prog 23 ((es.toList.map (rg Tryf.prog 3 (elemAt enc Tryf.prog W 0 (fun _ => true) true m 23))).foldr DataW.insert []), x ≤ reachBytes) :
    ∃ (D0 : DataW Value) (sa : Int → Option Addr) (ln sc : Int → Nat) (byt : Int → Nat → UInt8), Inp W.heap.size W bm es.size D0 sa ln sc byt ∧ Maps.size D0 = es.size ∧ (∀ x, ln x ≤ 4611686018427387904) ∧ (∀ x, hasK D0 x = false → sa x = none ∧ ln x = 0 ∧ sc x = 0) := by
  have F' := fit_RS F
  have hown : W.ownsMap Tryf.prog 3 RS bm es.size (.map ((es.toList.map (rg Tryf.prog 3 RS)).foldr DataW.insert [])) := ⟨es, clock, hb, F', Nat.le_refl _, rfl⟩
  have hD : ∃ D0 : DataW Value, D0 = .map ((es.toList.map (rg Tryf.prog 3 RS)).foldr DataW.insert []) := ⟨_, rfl⟩
  obtain ⟨D0, hD0⟩ := hD
  have key : ∀ x : Int, ∃ q : (Option Addr × Nat × Nat) × (Nat → UInt8), (hasK D0 x = true → (∀ zd, D0.atKey (.int .i64 x) zd = .held (.slice q.1.1 q.1.2.1 q.1.2.2)) ∧ q.1.2.1 ≤ 4611686018427387904 ∧
      ∀ i, i < q.1.2.1 → ∃ b o, q.1.1 = some ⟨b, o, none⟩ ∧ b < W.heap.size ∧ W.cell? ⟨b, o + i, none⟩ = some (.int .u8 ((q.2 i).toNat : Int))) ∧ (hasK D0 x = false → q.1 = (none, 0, 0)) := by
    intro x
    by_cases hx : hasK D0 x = true
    · have hw : (Lit.int .i64 x).wf = true := by
        obtain ⟨es', e1, hko⟩ := hown.keysOf
        rw [← hD0] at e1
        rw [e1] at hx
        unfold hasK at hx
        rw [has_eq, List.any_eq_true] at hx
        obtain ⟨p, hp, hs⟩ := hx
        obtain ⟨v, hv⟩ := hko p hp
        obtain ⟨y, _, hy, hwy⟩ := Maps.keyOf_int_inv Tryf.underlying3 hv
        rw [hy] at hs
        have : y = x := by simpa [Lit.sameKey] using hs
        rw [← this]; exact hwy
      rcases Maps.fit_look true law3 Tryf.underlying22 (z := .slice none 0 0) (by kernel_rfl) hb F' (keyOf_int_mk Tryf.underlying3 hw) with ⟨_, _, hat⟩ | ⟨e0, y, hm0, _, _, hR, hat, _⟩
      · rw [← hD0] at hat
        have := Maps.has_false_of_atKey hat
        unfold hasK at hx
        rw [hx] at this
        cases this
      · rw [← hD0] at hat
        obtain ⟨c, hc, hy⟩ := RS_inv hR
        obtain ⟨yy, hyy⟩ := F.reads e0 hm0
        obtain ⟨z, hz, hzz⟩ := rd_val hyy
        obtain ⟨a, n, cc, f, hv, hcells, hwt⟩ := elem_open hz
        refine ⟨((a, n, cc), f), fun _ => ⟨fun zd => by rw [hat, hy, hv], ?_, hcells⟩, fun h => by rw [hx] at h; cases h⟩
        have h1 := hwt reachBytes (fun q hq => hsz q (entry_weights (p := rg Tryf.prog 3 (elemAt enc Tryf.prog W 0 (fun _ => true) true m 23) e0) (mem_sorted.2 (List.mem_map.2 ⟨e0, hm0, rfl⟩)) (by rw [rg_of hyy, hzz]; exact hq)))
        have h2 := reachBytes_lt
        show n ≤ 4611686018427387904
        omega
    · exact ⟨((none, 0, 0), fun _ => 0), fun h => absurd h hx, fun _ => rfl⟩
  obtain ⟨q, hq⟩ := Classical.axiomOfChoice key
  refine ⟨D0, fun x => (q x).1.1, fun x => (q x).1.2.1, fun x => (q x).1.2.2, fun x => (q x).2, ⟨by rw [hD0]; exact hown, (Array.getElem?_eq_some_iff.1 hb).1, fun x zd hx => ((hq x).1 hx).1 zd, fun x i hx hi => ((hq x).1 hx).2.2 i hi⟩, ?_, fun x => ?_, fun x hx => ?_⟩
  · rw [hD0]; simp [Maps.size, length_sorted]
  · by_cases hx : hasK D0 x = true
    · exact ((hq x).1 hx).2.1
    · have := (hq x).2 (by simpa using hx)
      show (q x).1.2.1 ≤ _
      rw [this]
      decide
  · have := (hq x).2 hx
    simp [this]

/-- The map as the law sees it. -/
theorem mapI_of {w : World} {b n : Nat} {D0 : DataW Value} {sa : Int → Option Addr} {ln sc : Int → Nat} {byt : Int → Nat → UInt8} (hin : Inp w.heap.size w b n D0 sa ln sc byt) (hln : ∀ x, ln x ≤ 4611686018427387904)
    (hno : ∀ x, hasK D0 x = false → sa x = none ∧ ln x = 0 ∧ sc x = 0) : MapI w (.map (some b)) (Maps.size D0) (hasK D0) sa ln sc byt where
  len wr hb ty := (hin.below hb).own.len Tryf.underlying22 ty
  look wr hb x hw := by
    have h := hin.below hb
    obtain ⟨v, ps, hrun, hv⟩ := h.own.look_ok law3 Tryf.underlying22 (z := .slice none 0 0) (by kernel_rfl) (zd := .held (.slice none 0 0)) (zp := []) rfl (keyOf_int_mk Tryf.underlying3 hw)
    obtain ⟨c, hc, hy⟩ := RS_inv hv
    simp only [Prod.mk.injEq] at hy
    rw [hrun]
    by_cases hx : hasK D0 x = true
    · rw [h.at0 x _ hx] at hy
      have := DataW.held.inj hy.1
      rw [← this]
      rfl
    · have hx' : hasK D0 x = false := by simpa using hx
      rw [Maps.atKey_of_not_has hx'] at hy
      have := DataW.held.inj hy.1
      obtain ⟨e1, e2, e3⟩ := hno x hx'
      rw [← this, e1, e2, e3]
      rfl
  cells x i hx hi := hin.cells x i hx hi
  big := hln
end
end Go.Proofs.Qxb6628248aFmt
