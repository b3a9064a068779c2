/-
  Combine: Lagrange's sum, byte by byte; or coordinates' error.
-/
import Derived.Test.Qxb6628248aFmtCoord
import Derived.Test.Qxb6628248aFmtTail
namespace Go.Proofs.Qxb6628248aFmt
open Go.RowKit Go.Maps Go.Sort
open Go.Extern.Stop Go.Stop Go.Extern
open Gf

/-! ### The sums, by index -/
def basK (X : Nat → UInt8) (x : UInt8) : Nat → UInt8
  | 0 => 1
  | k + 1 => if X k = x then basK X x k else gm (basK X x k) (gm (X k) (gi (X k ^^^ x)))
def sumK (X : Nat → UInt8) (y : Nat → UInt8) (n : Nat) : Nat → UInt8
  | 0 => 0
  | i + 1 => sumK X y n i ^^^ gm (basK X (X i) n) (y i)
theorem prodL_basK (X y : Nat → UInt8) (x : UInt8) (k : Nat) : prodL (bF x) (seg (fun i => (X i, y i)) 0 k) = basK X x k := by
  induction k with
  | zero => rfl
  | succ k ih =>
    rw [seg_snoc, prodL_snoc, ih, basK, bF]
    by_cases h : X k = x
    · rw [if_pos h, if_pos h, gm_one]
    · rw [if_neg h, if_neg h]
theorem sumL_sumK (X y : Nat → UInt8) (n i : Nat) : sumL (fun p => gm (prodL (bF p.1) (seg (fun i => (X i, y i)) 0 n)) p.2) (seg (fun i => (X i, y i)) 0 i) = sumK X y n i := by
  induction i with
  | zero => rfl
  | succ i ih => rw [seg_snoc, sumL_snoc, ih, sumK, prodL_basK]
theorem lag_sumK (X y : Nat → UInt8) (n : Nat) : lag (seg (fun i => (X i, y i)) 0 n) = sumK X y n n := sumL_sumK X y n n

/-- What the walk takes of the map: behind every call that leaves what was there. -/
structure Inp (B : Nat) (w : World) (b n : Nat) (D0 : DataW Value) (sa : Int → Option Addr) (ln sc : Int → Nat) (byt : Int → Nat → UInt8) : Prop where
  own : w.ownsMap Tryf.prog 3 RS b n D0
  lt : b < B
  at0 : ∀ x zd, hasK D0 x = true → D0.atKey (.int .i64 x) zd = .held (.slice (sa x) (ln x) (sc x))
  cells : ∀ x i, hasK D0 x = true → i < ln x → ∃ c o, sa x = some ⟨c, o, none⟩ ∧ c < B ∧ w.cell? ⟨c, o + i, none⟩ = some (.int .u8 ((byt x i).toNat : Int))
theorem Inp.below {B : Nat} {w w' : World} {b n : Nat} {D0 : DataW Value} {sa : Int → Option Addr} {ln sc : Int → Nat} {byt : Int → Nat → UInt8} (h : Inp B w b n D0 sa ln sc byt) (hb : Below B w w') : Inp B w' b n D0 sa ln sc byt := by
  refine ⟨?_, h.lt, h.at0, fun x i hx hi => ?_⟩
  · obtain ⟨es, clock, hbk, r⟩ := h.own
    exact ⟨es, clock, by rw [hb.block b h.lt]; exact hbk, r⟩
  · obtain ⟨c, o, h1, h2, h3⟩ := h.cells x i hx hi
    exact ⟨c, o, h1, h2, by rw [hb.cell h2]; exact h3⟩

theorem info5 : (Tryf.prog.info? 5).map (fun i => (i.zero, i.size, i.bytes)) = some (some (.int .u8 0), 1, 1) := by kernel_rfl

/-- The look-up of a key that is there, as the walk's equation. -/
theorem look_here {B : Nat} {w : World} {b n : Nat} {D0 : DataW Value} {sa : Int → Option Addr} {ln sc : Int → Nat} {byt : Int → Nat → UInt8} (h : Inp B w b n D0 sa ln sc byt) (x : Int) (hx : hasK D0 x = true) (hw : (Lit.int .i64 x).wf = true) :
    (Instr.lookup 22 (.map (some b)) (.int .i64 x) false).run Tryf.prog w = .ok (.slice (sa x) (ln x) (sc x)) w := by
  obtain ⟨v, ps, hrun, hv⟩ := h.own.lookup law3 Tryf.underlying22 (z := .slice none 0 0) (by kernel_rfl) (zd := .held (.slice none 0 0)) (zp := []) rfl (keyOf_int_mk Tryf.underlying3 hw)
  rw [h.at0 x _ hx] at hv
  obtain ⟨c, rfl, hy⟩ := RS_inv hv
  simp only [Prod.mk.injEq] at hy
  have := DataW.held.inj hy.1
  rw [hrun, ← this]

/-! ### mul and inverse at whatever byte the walk spells -/
def bz (a : Int) : UInt8 := UInt8.ofNat a.toNat
theorem bz_nat (x : UInt8) : bz (x.toNat : Int) = x := by simp [bz]
theorem bz_back {a : Int} (h0 : 0 ≤ a) (h1 : a < 256) : ((bz a).toNat : Int) = a := by
  unfold bz
  rw [UInt8.toNat_ofNat_of_lt' (by show a.toNat < 256; omega)]
  omega
theorem mulZ (a c : Int) (w : World) (ha : 0 ≤ a) (ha' : a < 256) (hc : 0 ≤ c) (hc' : c < 256) :
    Calls Tryf.prog 11 #[.int .u8 a, .int .u8 c] w fun e w' => e = .returned (.int .u8 ((gm (bz a) (bz c)).toNat : Int)) ∧ w' = w := by
  have := mul_any (bz a) (bz c) w
  rwa [bz_back ha ha', bz_back hc hc'] at this
theorem invZ (a : Int) (w : World) (ha : 0 ≤ a) (ha' : a < 256) :
    Calls Tryf.prog 12 #[.int .u8 a] w fun e w' => e = .returned (.int .u8 ((gi (bz a)).toNat : Int)) ∧ w' = w := by
  have := inverse_any (bz a) w
  rwa [bz_back ha ha'] at this
theorem getD_here {l : List Nat} {i : Nat} (h : i < l.length) : l.getD i 0 = l[i] := by simp [List.getD, List.getElem?_eq_getElem h]
theorem u8lt (x : UInt8) : (x.toNat : Int) < 256 := by have := x.toNat_lt; omega
theorem u8ge (x : UInt8) : 0 ≤ (x.toNat : Int) := by omega

theorem below_drewN2 {B : Nat} {a w : World} (h : Below B a w) (n : Nat) : Below B a (w.drewN n) := ⟨h.os, h.tape, h.output, h.size, h.block⟩
theorem xor64 (a b : Nat) (ha : a < 256) (hb : b < 256) : bits .xor .i64 (a : Int) (b : Int) = ((a ^^^ b : Nat) : Int) := by
  have h : a ^^^ b < 2 ^ 8 := Nat.xor_lt_two_pow ha hb
  have ea : (BitVec.ofInt 64 (a : Int)).toNat = a := by rw [BitVec.ofInt_natCast, BitVec.toNat_ofNat]; omega
  have eb : (BitVec.ofInt 64 (b : Int)).toNat = b := by rw [BitVec.ofInt_natCast, BitVec.toNat_ofNat]; omega
  have : bits .xor .i64 (a : Int) (b : Int) = IntKind.i64.wrap (((BitVec.ofInt 64 (a : Int)) ^^^ (BitVec.ofInt 64 (b : Int))).toNat : Int) := rfl
  rw [this, BitVec.toNat_xor, ea, eb]
  simp [IntKind.wrap, IntKind.bits, IntKind.signed]
  omega
theorem bz_k (a : Nat) : bz (a : Int) = UInt8.ofNat a := by simp [bz]
theorem bz_xor (a b : Nat) (ha : a < 256) (hb : b < 256) : bz (bits .xor .i64 (a : Int) (b : Int) % 256) = UInt8.ofNat a ^^^ UInt8.ofNat b := by
  have h : a ^^^ b < 2 ^ 8 := Nat.xor_lt_two_pow ha hb
  rw [xor64 a b ha hb, show ((a ^^^ b : Nat) : Int) % 256 = ((a ^^^ b : Nat) : Int) from by omega, bz_k]
  apply UInt8.toNat.inj
  rw [UInt8.toNat_xor, UInt8.toNat_ofNat_of_lt' ha, UInt8.toNat_ofNat_of_lt' hb, UInt8.toNat_ofNat_of_lt' h]
theorem ofNat_ne {a b : Nat} (ha : a < 256) (hb : b < 256) (h : a ≠ b) : UInt8.ofNat a ≠ UInt8.ofNat b := fun e => h (by
  have := congrArg UInt8.toNat e
  rwa [UInt8.toNat_ofNat_of_lt' ha, UInt8.toNat_ofNat_of_lt' hb] at this)

set_option maxRecDepth 100000 in
set_option maxHeartbeats 1000000 in
/-- The two inner loops and the outer one, from the made slice on. -/
theorem comb_good (F : Interp) (hsort : SortInts) (b n L : Nat) (D0 : DataW Value) (sa : Int → Option Addr) (ln sc : Int → Nat) (byt : Int → Nat → UInt8) (K : Nat → Nat) (hKd : ∀ i, K i = (ks D0).getD i 0) (w : World) (hF : F.answers w.tape)
    (hin : Inp w.heap.size w b n D0 sa ln sc byt) (hmax : Maps.size D0 ≤ 65536) (hne : 1 ≤ Maps.size D0) (hL : L ≤ 1048576)
    (hgood : ∀ x, hasK D0 x = true → (1 ≤ x ∧ x ≤ 255) ∧ ln x = L) (hlx : ∀ x, ln x ≤ 4611686018427387904) :
    Calls Tryf.prog 7 #[.map (some b)] w fun e w' => Below w.heap.size w w' ∧
      ∃ g cap, e = .returned (.tuple #[.slice (some ⟨g, 0, none⟩) L cap, .nilIface]) ∧
        ∀ j, j < L → w'.cell? ⟨g, j, none⟩ = some (.int .u8 ((sumK (fun i => UInt8.ofNat (K i)) (fun i => byt (K i : Nat) j) (ks D0).length (ks D0).length).toNat : Int)) := by
  obtain ⟨i0, hi, hz0, hz1, hz2⟩ := info_parts info5
  have hcoord := coord_any F hsort b n D0 sa ln sc w hF hin.own hmax hin.at0 hlx hne
  go_enter Tryf.func7, Tryf.ntmps7
  go_wp2_with fail
  refine hcoord.mono ?_
  rintro e w1 ⟨hb1, ⟨g, cap, L', rfl, hg, hall, hrow⟩ | ⟨t, p, rfl, hbad⟩⟩
  · have hLL : L' = L := by
      obtain ⟨hnd, hlen, hm⟩ := intKeys_facts hin.own
      have : intKeys D0 ≠ [] := fun e => by rw [e] at hlen; simp at hlen; omega
      obtain ⟨x, hx⟩ := List.exists_mem_of_ne_nil _ this
      have h1 := (hall x ((hm x).1 hx)).2
      have h2 := (hgood x ((hm x).1 hx)).2
      omega
    subst hLL
    -- the keys, by index
    have hKm : ∀ i, i < (ks D0).length → (1 ≤ K i ∧ K i ≤ 255) ∧ hasK D0 (K i : Int) = true := fun i hi => by
      have : K i ∈ ks D0 := by rw [hKd, getD_here hi]; exact List.getElem_mem hi
      exact (mem_ks D0 _).1 this
    have hKi : ∀ i j, i < (ks D0).length → j < (ks D0).length → K i = K j → i = j := fun i j hi hj e => by
      rw [hKd, hKd, getD_here hi, getD_here hj] at e
      have hp := List.pairwise_iff_getElem.1 (ks_sorted D0)
      rcases Nat.lt_trichotomy i j with h | h | h
      · have := hp i j hi hj h; omega
      · exact h
      · have := hp j i hj hi h; omega
    have hNle := ks_le D0
    -- the keys' cells
    have hcx : ∀ i, i < (ks D0).length → w1.cell? ⟨g, i, none⟩ = some (.int .i64 (K i : Int)) := fun i hi => by
      have := hrow.cellAt i (by omega)
      rw [this]
      simp [List.getElem?_map, List.getElem?_eq_getElem hi, hKd]
    have hgl : g < w1.heap.size := by
      rcases hrow.2 with ⟨h, _⟩ | ⟨g', _, _, h, _, h', _⟩
      · cases h
      · cases h; exact (Array.getElem?_eq_some_iff.1 h').1
    obtain ⟨N, hN⟩ : ∃ N, (ks D0).length = N := ⟨_, rfl⟩
    rw [hN] at hrow hKm hKi hNle hcx ⊢
    have HNN : Hid ((ks D0).length = N) := hN
    clear hcoord hrow hKd hN
    go_wp2_with (first
      | (at_make; refine wpList_make_full _ rfl _ _ 23 rfl w.heap.size 5 i0 (.int .u8 0) 1 Tryf.underlying23 hi hz0 hz1 _ _ _ _ L' rfl rfl rfl rfl (by rw [hz2]; omega) (by unfold maxLen; omega) hb1.size ?_; intro w2 hrow2 hg2)
      | go_in)
    -- the made row
    obtain ⟨cs0, hr0, hs0, hc0⟩ : ∃ cs0 : Array Value, w2.heap[w1.heap.size]? = some (.cells cs0 5 (0, 0)) ∧ cs0.size = L' ∧ ∀ j, j < L' → cs0[j]? = some (.int .u8 0) := by
      rcases hrow2.2 with ⟨h, _⟩ | ⟨g', cap', cur, h, _, h1, h2, h3, h4, h5⟩
      · cases h
      · cases h
        refine ⟨cur, h1, by omega, fun j hj => ?_⟩
        have e1 : (cur.toList.take (L' * 1))[j]? = (madeCells (Value.int .u8 0).cells (L' * 1)).toList[j]? := by rw [h5]
        rw [List.getElem?_take_of_lt (by omega), Array.getElem?_toList] at e1
        rw [e1]
        have e2 := toList_madeCells_one (.int .u8 0) (L' * 1)
        show (madeCells #[.int .u8 0] (L' * 1)).toList[j]? = _
        rw [e2, List.getElem?_replicate, if_pos (by omega)]
    have hbw : Below w.heap.size w w2 := hb1.grown hg2 hb1.size (fun j hj => by cases hj)
    have hin2 : Inp w.heap.size w2 b n D0 sa ln sc byt := hin.below hbw
    have hcx2 : ∀ i, i < N → w2.cell? ⟨g, i, none⟩ = some (.int .i64 (K i : Int)) := fun i hi => by
      rw [World.cell?_of_block (w := w1) (hg2.block g hgl (by simp))]; exact hcx i hi
    have hw2s : w1.heap.size < w2.heap.size := (Array.getElem?_eq_some_iff.1 hr0).1
    clear hrow2 hg2 hcx hin
    go_loopw [28] (fun q wr => ∃ (i : Nat) (cs : Array Value), i ≤ N ∧ q = .int .i64 i ∧ wr.heap[w1.heap.size]? = some (.cells cs 5 (0, 0)) ∧ cs.size = L' ∧ (∀ j, j < L' → cs[j]? = some (.int .u8 ((sumK (fun i => UInt8.ofNat (K i)) (fun i => byt (K i : Nat) j) N i).toNat : Int))) ∧ Below w1.heap.size w2 wr) (fun q _ => N - (intOf q).toNat)
    case atStart => exact ⟨0, cs0, by omega, rfl, hr0, hs0, fun j hj => by rw [hc0 j hj]; rfl, Below.refl _ _⟩
    case round =>
      obtain ⟨i, cs, hiN, rfl, hrow, hcsz, hcs, hbr⟩ := hrel
      have hinr : Inp w.heap.size wr b n D0 sa ln sc byt := hin2.below (hbr.mono hb1.size)
      by_cases hlt : i < N
      · have hxi : wr.cell? ⟨g, i, none⟩ = some (.int .i64 (K i : Int)) := by rw [hbr.cell hgl]; exact hcx2 i hlt
        obtain ⟨⟨hk1, hk2⟩, hk3⟩ := hKm i hlt
        have hlook := look_here hinr (K i : Int) hk3 (WalkArith.wf_i64 (by omega))
        have hlnL := (hgood _ hk3).2
        rw [hlnL] at hlook
        have HC : Hid (wr.heap[w1.heap.size]? = some (.cells cs 5 (0, 0)) ∧ cs.size = L' ∧ (∀ j, j < L' → cs[j]? = some (.int .u8 ((sumK (fun i => UInt8.ofNat (K i)) (fun i => byt (K i : Nat) j) N i).toNat : Int)))) := ⟨hrow, hcsz, hcs⟩
        have hlt' : (i : Int) < (N : Int) := by omega
        have HX : Hid (∀ k, k < N → wr.cell? ⟨g, k, none⟩ = some (.int .i64 (K k : Int))) := fun k hk => by rw [hbr.cell hgl]; exact hcx2 k hk
        clear hrow hcsz hcs hcx2 hr0 hs0 hc0 hlnL
        go_wp2
        go_loop [10, 34] (fun ba q => ∃ k : Nat, k ≤ N ∧ q = .int .i64 k ∧ ba = .int .u8 ((basK (fun i => UInt8.ofNat (K i)) (UInt8.ofNat (K i)) k).toNat : Int)) (fun _ q => N - (intOf q).toNat)
        case atStart => exact ⟨0, by omega, rfl, rfl⟩
        case round =>
          obtain ⟨k, hkN, rfl, rfl⟩ := hrel
          by_cases hkl : k < N
          · have hxk := HX.out k hkl
            obtain ⟨⟨hm1, hm2⟩, hm3⟩ := hKm k hkl
            have hkl' : (k : Int) < (N : Int) := by omega
            have hst : basK (fun i => UInt8.ofNat (K i)) (UInt8.ofNat (K i)) (k + 1) = if UInt8.ofNat (K k) = UInt8.ofNat (K i) then basK (fun i => UInt8.ofNat (K i)) (UInt8.ofNat (K i)) k else gm (basK (fun i => UInt8.ofNat (K i)) (UInt8.ofNat (K i)) k) (gm (UInt8.ofNat (K k)) (gi (UInt8.ofNat (K k) ^^^ UInt8.ofNat (K i)))) := rfl
            have HST : Hid (basK (fun i => UInt8.ofNat (K i)) (UInt8.ofNat (K i)) (k + 1) = if UInt8.ofNat (K k) = UInt8.ofNat (K i) then basK (fun i => UInt8.ofNat (K i)) (UInt8.ofNat (K i)) k else gm (basK (fun i => UInt8.ofNat (K i)) (UInt8.ofNat (K i)) k) (gm (UInt8.ofNat (K k)) (gi (UInt8.ofNat (K k) ^^^ UInt8.ofNat (K i))))) := hst
            clear hst
            generalize basK (fun i => UInt8.ofNat (K i)) (UInt8.ofNat (K i)) k = BA at *
            have hba := u8lt BA
            by_cases heq : K k = K i
            · have hbne : ((K k : Int) != (K i : Int)) = false := by rw [heq]; simp
              have HE : Hid (K k = K i) := heq
              clear heq
              go_wp2
              go_round
              case rel => exact ⟨k + 1, by omega, by go_num, by rw [HST.out, HE.out, if_pos rfl]⟩
              case measure => simp [intOf]; omega
            · have hbne : ((K k : Int) != (K i : Int)) = true := by rw [bne_iff_ne]; omega
              have HE : Hid (K k ≠ K i) := heq
              clear heq
              go_wp2_with (first
                | (go_at_call 12; refine (invZ _ _ (by omega) (by omega)).mono ?_; rintro e w' ⟨rfl, rfl⟩)
                | (go_at_call 11; refine (mulZ _ _ _ (by omega) (by omega) (u8ge _) (u8lt _)).mono ?_; rintro e w' ⟨rfl, rfl⟩))
              go_round
              case rel =>
                refine ⟨k + 1, by omega, by go_num, ?_⟩
                rw [HST.out, if_neg (ofNat_ne (by omega) (by omega) HE.out), bz_nat, bz_nat, bz_nat, bz_k, bz_xor _ _ (by omega) (by omega)]
              case measure => simp [intOf]; omega
          · have hkk : k = N := by omega
            subst hkk
            obtain ⟨hrow, hcsz, hcs⟩ := HC.out
            have HST : Hid (∀ j, sumK (fun i => UInt8.ofNat (K i)) (fun i => byt (K i : Nat) j) k (i + 1) = sumK (fun i => UInt8.ofNat (K i)) (fun i => byt (K i : Nat) j) k i ^^^ gm (basK (fun i => UInt8.ofNat (K i)) (UInt8.ofNat (K i)) k) (byt (K i : Nat) j)) := fun _ => rfl
            generalize basK (fun i => UInt8.ofNat (K i)) (UInt8.ofNat (K i)) k = BA at *
            generalize hSI : (fun j => sumK (fun i => UInt8.ofNat (K i)) (fun i => byt (K i : Nat) j) k i) = SI at *
            have hcs' : ∀ j, j < L' → cs[j]? = some (.int .u8 ((SI j).toNat : Int)) := fun j hj => by rw [← hSI]; exact hcs j hj
            have HST' : Hid (∀ j, sumK (fun i => UInt8.ofNat (K i)) (fun i => byt (K i : Nat) j) k (i + 1) = SI j ^^^ gm BA (byt (K i : Nat) j)) := fun j => by rw [← hSI]; exact HST.out j
            clear hcs hSI HST HC HX
            rcases Nat.eq_zero_or_pos L' with hL0 | hLpos
            · have hL1 : ¬ (0 : Int) < (L' : Int) := by omega
              clear hL0
              generalize wr = wo at *
              go_wp2
              go_loopw [56] (fun q wq => q = .int .i64 0 ∧ wq = wo) (fun _ _ => 0)
              case atStart => exact ⟨rfl, rfl⟩
              case round =>
                obtain ⟨rfl, rfl⟩ := hrel
                go_wp2
                go_roundw
                case rel => exact ⟨i + 1, cs, by omega, by go_num, hrow, hcsz, fun j hj => by omega, hbr⟩
                case measure => simp [intOf]; omega
            · obtain ⟨c, o, hsa, hcB, _⟩ := hinr.cells (K i : Int) 0 hk3 (by have := (hgood _ hk3).2; omega)
              have hby : ∀ j, j < L' → wr.cell? ⟨c, o + j, none⟩ = some (.int .u8 ((byt (K i : Nat) j).toNat : Int)) := fun j hj => by
                obtain ⟨c', o', h1, h2, h3⟩ := hinr.cells (K i : Int) j hk3 (by have := (hgood _ hk3).2; omega)
                rw [hsa] at h1
                cases h1
                exact h3
              rw [hsa] at hlook
              have HBY : Hid (∀ j, j < L' → wr.cell? ⟨c, o + j, none⟩ = some (.int .u8 ((byt (K i : Nat) j).toNat : Int))) := hby
              have HR : Hid (wr.heap[w1.heap.size]? = some (.cells cs 5 (0, 0)) ∧ cs.size = L' ∧ ∀ j, j < L' → cs[j]? = some (.int .u8 ((SI j).toNat : Int))) := ⟨hrow, hcsz, hcs'⟩
              clear hby hsa hrow hcsz hcs'
              generalize wr = wo at *
              go_wp2
              go_loopw [56] (fun q wq => ∃ (t : Nat) (ct : Array Value), t ≤ L' ∧ q = .int .i64 t ∧ wq.heap[w1.heap.size]? = some (.cells ct 5 (0, 0)) ∧ ct.size = L' ∧ (∀ j, j < L' → ct[j]? = some (.int .u8 ((if j < t then SI j ^^^ gm BA (byt (K i : Nat) j) else SI j : UInt8).toNat : Int))) ∧ Below w1.heap.size wo wq) (fun q _ => L' - (intOf q).toNat)
              case atStart => exact ⟨0, cs, by omega, rfl, HR.out.1, HR.out.2.1, fun j hj => by rw [if_neg (by omega)]; exact HR.out.2.2 j hj, Below.refl _ _⟩
              case round =>
                obtain ⟨t, ct, htL, rfl, hrow, hcsz, hcs, hbt⟩ := hrel
                by_cases htl : t < L'
                · have e1 : wr.cell? ⟨c, o + t, none⟩ = some (.int .u8 ((byt (K i : Nat) t).toNat : Int)) := by rw [hbt.cell (show c < w1.heap.size by have := hb1.size; omega)]; exact HBY.out t htl
                  have e2 : wr.cell? ⟨w1.heap.size, t, none⟩ = some (.int .u8 ((SI t).toNat : Int)) := by rw [cell_of_row _ _ _ _ _ _ hrow, hcs t htl, if_neg (by omega)]
                  have f2 : wr.frozen? ⟨w1.heap.size, t, none⟩ = false := frozen_of_row _ _ _ _ _ hrow
                  have HR2 : Hid (wr.heap[w1.heap.size]? = some (.cells ct 5 (0, 0)) ∧ ct.size = L' ∧ (∀ j, j < L' → ct[j]? = some (.int .u8 ((if j < t then SI j ^^^ gm BA (byt (K i : Nat) j) else SI j : UInt8).toNat : Int)))) := ⟨hrow, hcsz, hcs⟩
                  have htl' : (t : Int) < (L' : Int) := by omega
                  have hbb := u8lt (byt (K i : Nat) t)
                  have hba := u8lt BA
                  have hss := u8lt (SI t)
                  clear hrow hcsz hcs
                  go_wp2
                  refine wp_region_last 9 (by kernel_rfl) rfl (by kernel_rfl) ?_
                  simp only [List.take_succ_cons, List.take_zero, List.drop_succ_cons, List.drop_zero]
                  repeat (go_big_quiet_step ((go_at_call 11; exact Calls.quiet_of_same (mulZ _ _ _ (by omega) (by omega) (by omega) (by omega)))))
                  refine wpQuiet_nil ?_
                  intro _ hw'
                  obtain ⟨nq, hw''⟩ := hw'
                  subst hw''
                  go_wp2
                  go_roundw
                  case rel =>
                    obtain ⟨hrow, hcsz, hcs⟩ := HR2.out
                    refine ⟨t + 1, _, by omega, by go_num, heap_setCell_same _ _ _ _ _ _ hrow, by simpa using hcsz, ?_, ?_⟩
                    · intro j hj
                      rw [bz_nat, bz_nat, u8x, Array.getElem?_setIfInBounds]
                      by_cases hjt : t = j
                      · subst hjt
                        rw [if_pos rfl, if_pos (by omega), if_pos (by omega)]
                      · rw [if_neg hjt, hcs j hj]
                        by_cases hlt2 : j < t
                        · rw [if_pos hlt2, if_pos (by omega)]
                        · rw [if_neg hlt2, if_neg (by omega)]
                    · exact (below_drewN2 hbt nq).setCell (Nat.le_refl _) _
                  case measure => simp [intOf]; omega
                · go_wp2
                  go_roundw
                  case rel =>
                    refine ⟨i + 1, ct, by omega, by go_num, hrow, hcsz, fun j hj => ?_, hbr.trans hbt⟩
                    rw [hcs j hj, if_pos (by omega), HST'.out j]
                  case measure => simp [intOf]; omega
      · go_wp2
        go_ret2
        have hiN' : i = N := by omega
        subst hiN'
        exact ⟨hbw.trans (hbr.mono hb1.size), _, _, rfl, fun j hj => by rw [cell_of_row _ _ _ _ _ _ hrow, hcs j hj, HNN.out]⟩
  · exact absurd (fun x y hx hy => ⟨(hgood x hx).1, by rw [(hgood x hx).2, (hgood y hy).2]⟩) hbad
end Go.Proofs.Qxb6628248aFmt
