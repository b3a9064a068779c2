/-
  THE LAW AT THE MAP THAT CAME IN; THE ROW; THE CARD.
-/
import Derived.Test.Qxb6628248aFmtInp
import Derived.Test.Qxb6628248aFmtCards
import Derived.Stop.JoinedAt
import Derived.Stop.JoinedTold
import Derived.SevenToldRow
namespace Go.Proofs.Qxb6628248aFmt
open Go.RowKit Go.Maps Go.Sort
open Go.Extern.Stop Go.Stop Go.Extern
open Go.ChangeShapes Go.WideShapes Go.ChangeAt Go.Kit
open Go.WideElems (Fit rg pl elemAt open_map)
open Go.ChangeMaps (shut_map_nil)
open Gf

theorem Inp.mono {B B' : Nat} {w : World} {b n : Nat} {D0 : DataW Value} {sa : Int → Option Addr} {ln sc : Int → Nat} {byt : Int → Nat → UInt8} (h : Inp B w b n D0 sa ln sc byt) (hB : B ≤ B') : Inp B' w b n D0 sa ln sc byt :=
  ⟨h.own, Nat.lt_of_lt_of_le h.lt hB, h.at0, fun x i hx hi => by obtain ⟨c, o, h1, h2, h3⟩ := h.cells x i hx hi; exact ⟨c, o, h1, Nat.lt_of_lt_of_le h2 hB, h3⟩⟩

theorem st_ks (D0 : DataW Value) (ln : Int → Nat) : (st (hasK D0) ln 255).1 = ks D0 := st_filter _ _ _

theorem law_map (F : Interp) (b n : Nat) (D0 : DataW Value) (sa : Int → Option Addr) (ln sc : Int → Nat) (byt : Int → Nat → UInt8) (w : World) (hF : F.answers w.tape) (hin : Inp w.heap.size w b n D0 sa ln sc byt) (hln : ∀ x, ln x ≤ 4611686018427387904)
    (hno : ∀ x, hasK D0 x = false → sa x = none ∧ ln x = 0 ∧ sc x = 0) (hM : Maps.size D0 ≤ 4611686018427387904) :
    Calls Tryf.prog 3 #[.map (some b)] w fun e w' => e = .returned (.bool true) ∧ Below w.heap.size w w' := by
  refine law_any _ _ _ sa ln sc byt w hM (mapI_of hin hln hno) (fun hbig wr hb hn => ?_) (fun hbig wr L hb h1 h2 h3 h4 h5 => ?_)
  · have hinr := hin.below hb
    have hFr : F.answers wr.tape := by rw [hb.tape]; exact hF
    by_cases hM0 : Maps.size D0 = 0
    · refine comb_err _ _ (coord_none _ _ fun ty => ?_)
      have := hinr.own.len Tryf.underlying22 ty
      rw [hM0] at this
      exact this
    · refine comb_err _ _ ((coord_any F sortInts b n D0 sa ln sc wr hFr hinr.own (by omega) hinr.at0 hln (by omega)).mono ?_)
      rintro e w' ⟨hb', ⟨g, cap, L, _, _, hall, _⟩ | ⟨t, p, he, _⟩⟩
      · exfalso
        apply hn
        rw [st_ks]
        refine ⟨hM0, (ks_all hinr.own).2 fun x hx => (hall x hx).1, ?_⟩
        cases hs : (st (hasK D0) ln 255).2.2
        · obtain ⟨y, hy, z, hz, hne⟩ := (st_lens (hasK D0) ln 255).2.2.2 hs
          have e1 := (hall _ ((st_mem (hasK D0) ln 255 y).1 hy).2).2
          have e2 := (hall _ ((st_mem (hasK D0) ln 255 z).1 hz).2).2
          exact absurd (e1.trans e2.symm) hne
        · rfl
      · exact ⟨hb', t, p, he⟩
  · have hinr := hin.below hb
    have hFr : F.answers wr.tape := by rw [hb.tape]; exact hF
    have hgood : ∀ x, hasK D0 x = true → (1 ≤ x ∧ x ≤ 255) ∧ ln x = L := fun x hx => by
      rw [st_ks] at h2
      have hr := (ks_all hinr.own).1 h2 x hx
      refine ⟨hr, ?_⟩
      have hx' : hasK D0 (x.toNat : Int) = true := by rw [Int.toNat_of_nonneg (by omega)]; exact hx
      have := (st_lens (hasK D0) ln 255).2.2.1 h3 x.toNat ((st_mem (hasK D0) ln 255 x.toNat).2 ⟨by omega, hx'⟩)
      rw [Int.toNat_of_nonneg (by omega)] at this
      omega
    have := comb_good F sortInts b n L D0 sa ln sc byt (fun i => (ks D0).getD i 0) (fun _ => rfl) wr hFr (hinr.mono hb.size) (by omega) (by omega) h5 hgood hln
    rw [st_ks]
    exact this

theorem law_nil (w : World) : Calls Tryf.prog 3 #[.map none] w fun e w' => e = .returned (.bool true) ∧ Below w.heap.size w w' := by
  refine law_any _ 0 (fun _ => false) (fun _ => none) (fun _ => 0) (fun _ => 0) (fun _ _ => 0) w (by omega) ⟨fun wr _ ty => Maps.len_nil Tryf.underlying22 ty, fun wr _ x hw => ?_, fun x i hx => (by cases hx), fun _ => (by omega)⟩ (fun _ wr hb _ => ?_) (fun _ wr L hb h1 => absurd rfl h1)
  · exact Maps.look_nil true law3 Tryf.underlying22 (by kernel_rfl) (keyOf_int_mk Tryf.underlying3 hw)
  · exact comb_err _ _ (coord_none _ _ fun ty => Maps.len_nil Tryf.underlying22 ty)

theorem own : ownKnob Tryf.prog.godebug = none := by kernel_rfl
theorem laidOut : laidOutB Tryf.pinned.checked.prog = true := by kernel_rfl
theorem stops : Tryf.pinned.checked.prog.stops = ["fmt.errorf"] := by kernel_rfl
theorem stopKnobs : Tryf.pinned.checked.prog.stopKnobs = [] := by kernel_rfl
theorem quietAll (os : Os) : Stop.quiet Tryf.pinned.checked.prog os := by
  intro k hk
  rw [stopKnobs] at hk
  cases hk
theorem bytes3 : Tryf.prog.bytesOf 3 = 8 := by kernel_rfl

set_option maxRecDepth 100000 in
theorem lifted (os : Os) (started : os.Started) (H : Type) (enc : TypeId × Value → H) :
    ReturnsInTold none {} Tryf.checked os 3 .any Input.okWide ((OpenSpec.ofChange Rows.fnCombineMatchesNewtonInterpolationSpec).preRow enc Tryf.prog Tryf.f3 [] false []) (fun F => ((OpenSpec.ofChange Rows.fnCombineMatchesNewtonInterpolationSpec).at F).post enc Tryf.prog Tryf.f3 false true false false) (aloneAtReturn Tryf.prog) nothingAlways := by
  refine returnsInTold_of_row (C := Tryf.checked) (s := OpenSpec.ofChange Rows.fnCombineMatchesNewtonInterpolationSpec) (by kernel_rfl) own started (by kernel_rfl) Tryf.func3
    (OpenSpec.witness_stopped (enc := enc) (C := Tryf.checked) false ⟨#[], #[.map none], []⟩ 8 (by kernel_rfl) (by kernel_rfl) (by kernel_rfl) (by kernel_rfl)) ?_
  intro F W base args ds gs before _ hF hval0 hW _ _ hsz _ _
  have hval : ∀ (j : Nat) t v, Tryf.f3.params[j]? = some t → args[j]? = some v → Value.okWide Tryf.prog W .any base t v := hval0
  have hW' := hW
  obtain ⟨p, q, hA0, hV, rfl, _, _⟩ := hW
  have hA : DataW.TrodAll enc Tryf.prog W 0 (fun _ => true) true Tryf.f3.params.toList args.toList ds p := hA0
  rw [Tryf.params3] at hA hval
  obtain ⟨v0, d0, rfl, rfl, h0⟩ := trodAll_one hA
  obtain ⟨rfl, rfl⟩ := trodVars_none hV
  obtain ⟨a0, rfl⟩ := okWide_map Tryf.underlying22 (hval 0 22 v0 rfl rfl)
  have h0k := h0
  obtain ⟨fuel, hf⟩ := h0
  clear hA0 hval0
  simp only [List.append_nil] at hW'
  have hlt : ∀ x ∈ p, x.block < W.heap.size := fun x hx => by simpa using hW'.lt x hx
  have hargs : ∀ (W' : World), Below W.heap.size W W' → DataW.Trod enc Tryf.prog W' 0 (fun b => decide (b < W.heap.size)) true 22 (.map a0) d0 p :=
    fun W' hn => Below.trod laidOut (by kernel_rfl) (of_decide_eq_true (by kernel_rfl)) h0k hn hlt
  have fin : Calls Tryf.prog 3 #[.map a0] W (fun e w' => e = .returned (.bool true) ∧ Below W.heap.size W w') → Calls Tryf.checked.prog 3 #[.map a0] W fun e W' => ∃ v, e = .returned v ∧ ((OpenSpec.ofChange Rows.fnCombineMatchesNewtonInterpolationSpec).at F.told).post enc Tryf.checked.prog Tryf.f3 false true false false W #[.map a0] v W' := by
    intro hc
    refine hc.mono fun e W' ⟨he, hnx⟩ => ?_
    subst he
    exact ⟨_, rfl, _, _, _, [], p, [], hW', trodAll_mk1 (shut_bool Tryf.underlying4 true), trodAll_mk1 (hargs _ hnx), rfl, hnx.frame _, fun h => by cases h⟩
  rcases open_map Tryf.underlying22 hf with ⟨hcs, hx⟩ | ⟨bm, es, clock, m, rfl, hcs, hb, _, Fi, hx⟩
  · simp [Value.cells] at hcs
    subst hcs
    exact fin (law_nil W)
  · simp [Value.cells] at hcs
    subst hcs
    simp only [Prod.mk.injEq] at hx
    have hd := hx.1
    have hz : ∀ x ∈ DataW.weightsEntries Tryf.prog 23 ((es.toList.map (rg Tryf.prog 3 (elemAt enc Tryf.prog W 0 (fun _ => true) true m 23))).foldr DataW.insert []), x ≤ reachBytes := fun x hxm => by
      have := List.all_eq_true.1 hsz x (DataW.weights_mem_each (j := 0) (t := 22) (d := d0) rfl rfl x (by rw [hd]; simp only [DataW.weights]; exact List.mem_cons_of_mem _ hxm))
      simpa using this
    obtain ⟨D0, sa, ln, sc, byt, hin, hs, hln, hno⟩ := inp_of hb Fi hz
    refine fin (law_map F.told bm es.size D0 sa ln sc byt W hF hin hln hno ?_)
    have := sized_map hsz (j := 0) (t := 22) (k := 3) (e := 23) rfl (by rw [hd]; rfl) Tryf.underlying22
    rw [length_sorted, List.length_map, Array.length_toList] at this
    have h3 : Tryf.checked.prog.bytesOf 3 = 8 := bytes3
    rw [h3] at this
    have hr := reachBytes_lt
    have h8 : es.size * 8 ≤ es.size * (8 + Tryf.checked.prog.bytesOf 23) := Nat.mul_le_mul_left _ (Nat.le_add_right _ _)
    rw [hs]
    omega

/-- ████ THE STATEMENT ████ -/
theorem proved : Rows.FnCombineMatchesNewtonInterpolationToldSaid :=
  Claim7.holds_of_told_any 3 Tryf.f3 "fmt.errorf" [] [] _ _ _ (by kernel_rfl) rfl rfl rfl laidOut (by kernel_rfl) rfl ⟨rfl, rfl, rfl, rfl, rfl, rfl, rfl⟩ rfl rfl (by kernel_rfl) (by kernel_rfl) Tryf.func3 (by kernel_rfl)
    (of_decide_eq_true (by kernel_rfl)) (by unfold Func.isWrapper; rw [if_neg (of_decide_eq_false (by kernel_rfl))]; exact ⟨rfl, rfl⟩) stops.symm rfl stopKnobs.symm (by kernel_rfl)
    (by kernel_rfl) (by kernel_rfl) (by kernel_rfl) (by kernel_rfl) (by kernel_rfl) (by kernel_rfl) (by kernel_rfl) (by kernel_rfl) (by kernel_rfl) rfl (by kernel_rfl) rfl rfl
    rfl rfl
    rfl (by kernel_rfl) (by kernel_rfl) (by kernel_rfl) (by decide) (by kernel_rfl)
    (OpenClaim.moreEntering_of (by kernel_rfl) (by kernel_rfl) (by kernel_rfl) (by kernel_rfl) (by kernel_rfl) (by kernel_rfl) (by kernel_rfl) (by kernel_rfl) (by kernel_rfl) (by kernel_rfl))
    ⟨_, WideRow.started_initial, quietAll _⟩
    (fun os started _ H enc _ => lifted os started H enc)
#print axioms proved
end Go.Proofs.Qxb6628248aFmt
