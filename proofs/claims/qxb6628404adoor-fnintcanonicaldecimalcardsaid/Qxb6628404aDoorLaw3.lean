/-
  FnIntCanonicalDecimal (3).
-/
import Derived.Test.Qxb6628404aDoorLaw4a
import Derived.Test.Qxb6628404aDoorKind
import Derived.Test.Qxb6628404aDoorInt3
namespace Go.Proofs.Qxb6628404aDoor
open Go.RowKit Go.Lib

/-- The text's copies, the document over one of them, and the value. -/
structure One (w wr : World) (n : Nat) (f : Nat → UInt8) (M G : Option Addr) (cg x d : Nat) (k : UInt8) : Prop where
  below : Below w.heap.size w wr
  m : Byt wr.heap.size wr M n f
  g : Byt wr.heap.size wr G n f
  v : Vat wr x d 0 (.slice G n cg) 1 (fun _ => k) (fun _ => 0) (fun _ => (n : Int)) (fun _ => 1)
/-- A number, or another text that is no canonical decimal. -/
structure Fit (f : Nat → UInt8) (n : Nat) (k : UInt8) : Prop where
  ex : (k = 4 ∧ Num f n) ∨ (k ≠ 4 ∧ 0 < n ∧ ¬ Canon f n)
theorem Fit.pos {f : Nat → UInt8} {n : Nat} {k : UInt8} (h : Fit f n k) : 0 < n := by
  rcases h.ex with ⟨_, h⟩ | ⟨_, h, _⟩
  · exact num_pos h
  · exact h
theorem Fit.num {f : Nat → UInt8} {n : Nat} {k : UInt8} (h : Fit f n k) (hc : Canon f n) : Num f n := by
  rcases h.ex with ⟨_, h⟩ | ⟨_, _, h⟩
  · exact h
  · exact absurd hc h
section
variable {w wr : World} {n : Nat} {f : Nat → UInt8} {M G : Option Addr} {cg x d : Nat} {k : UInt8}
theorem One.after {wr' : World} (h : Hid (One w wr n f M G cg x d k)) (hb : Below wr.heap.size wr wr') : Hid (One w wr' n f M G cg x d k) :=
  ⟨h.out.below.trans (hb.mono h.out.below.size), (h.out.m.below hb (Nat.le_refl _)).mono hb.size, (h.out.g.below hb (Nat.le_refl _)).mono hb.size, h.out.v.below hb⟩
theorem One.int (h : One w wr n f M G cg x d k) (hE : Errs w) (h2 : 2 ≤ w.heap.size) (hF : Fit f n k) (hn : n ≤ 1048576) (hc : n ≤ cg) :
    Calls Tryd.prog 9 #[.agg #[.pointer (some ⟨d, 0, none⟩), .int .i32 0]] wr fun r w' => IntAns f n r ∧ Below wr.heap.size wr w' := by
  rcases hF.ex with ⟨rfl, hN⟩ | ⟨hk, _, hC⟩
  · exact int_num wr.heap.size d G n cg 1 (fun _ => 4) (fun _ => 0) (fun _ => (n : Int)) (fun _ => 1) 0 0 n (by omega) rfl rfl rfl (num_pos hN) (by omega) G n (by split <;> cases G <;> simp [Addr.add]) (by omega) (by omega) f hN wr (Nat.le_refl _) (Nat.le_trans h2 h.below.size) (hE.below h.below h2) h.v.doc h.g
  · refine (int_other wr.heap.size d (.slice G n cg) 1 (fun _ => k) (fun _ => 0) (fun _ => (n : Int)) (fun _ => 1) 0 (by omega) hk wr (Nat.le_refl _) (Nat.le_trans h2 h.below.size) (hE.below h.below h2) h.v.doc).mono ?_
    rintro r w' ⟨⟨t, p, rfl⟩, hb⟩
    exact ⟨⟨.inr ⟨hC, t, p, rfl⟩⟩, hb⟩
theorem One.raw (h : One w wr n f M G cg x d k) (hc : n ≤ cg) :
    Calls Tryd.prog 10 #[.agg #[.pointer (some ⟨d, 0, none⟩), .int .i32 0]] wr fun r w' => r = .returned (.slice G n n) ∧ Below wr.heap.size wr w' :=
  rawV_any wr.heap.size d G n cg 1 (fun _ => k) (fun _ => 0) (fun _ => (n : Int)) (fun _ => 1) 0 0 n (by omega) rfl rfl (by omega) (by omega) G n (by split <;> cases G <;> simp [Addr.add]) (by omega) wr (Nat.le_refl _) h.v.doc
end
theorem Drew.below {w w' : World} (h : Drew w w') : Below w.heap.size w w' := by
  obtain ⟨q, rfl⟩ := h.ex
  exact ⟨rfl, rfl, rfl, Nat.le_refl _, fun _ _ => rfl⟩

set_option maxRecDepth 100000 in
set_option maxHeartbeats 400000 in
theorem law3 (B : Nat) (A : Option Addr) (n c : Nat) (f : Nat → UInt8) (w : World) (hB : B ≤ w.heap.size) (h2 : 2 ≤ w.heap.size) (hE : Errs w) (hS : Byt B w A n f) (hA : A = none → n = 0) :
    Calls Tryd.prog 3 #[.slice A n c] w fun e w' => e = .returned (.bool true) ∧ Below w.heap.size w w' := by
  have hln := hS.len
  have k5 : Calls Tryd.prog 5 #[.slice A n c] w fun e w' => Only e (n ≤ 1048576) ∧ Below w.heap.size w w' := (bytes5_any A n c w hln).mono (by
    rintro e w' ⟨h1, rfl⟩
    exact ⟨h1, Below.refl _ _⟩)
  have H6 : Hid (∀ W, Below w.heap.size w W → Calls Tryd.prog 6 #[.slice A n c] W fun e w' => Kinded f n e ∧ Below W.heap.size W w') := fun W hb => (kindOf_any B A n c f W (hS.below hb hB)).mono (by
    rintro e w' ⟨h1, hd⟩
    exact ⟨h1, hd.below⟩)
  have H7 : Hid (∀ W, Below w.heap.size w W → n ≤ 1048576 → Calls Tryd.prog 7 #[.slice A n c] W fun e w' => Copied W w' e n f ∧ Below W.heap.size W w') := fun W hb hn => copy_any B A n c f W (Nat.le_trans hB hb.size) (hS.below hb hB) hn hA
  have HD1 : Hid (∀ (W : World) (G : Option Addr) (cg : Nat) (k : UInt8), Calls Tryd.prog 8 #[.slice G n cg, .int .u8 (k.toNat : Int), .int .i32 0, .int .i32 (n : Int), .int .i32 1] W fun r w' => Below W.heap.size W w' ∧ ∃ d, r = .returned (.agg #[.pointer (some ⟨d, 0, none⟩), .int .i32 0]) ∧ Doc w'.heap.size w' d (.slice G n cg) 1 (fun _ => k) (fun _ => 0) (fun _ => (n : Int)) (fun _ => 1)) :=
    fun W G cg k => new1_any (.slice G n cg) ⟨_, _, _, rfl⟩ k 0 n 1 W
  have HE : Hid (Errs w) := hE
  clear hE hS hA hB
  go_enter Tryd.func3, Tryd.ntmps3
  go_wp2_with (first
    | (go_at_call 5; refine k5.mono ?_; rintro e w1 ⟨⟨b1, rfl, hb⟩, hb1⟩; clear hb k5)
    | fail)
  · go_ret
    exact ⟨rfl, hb1⟩
  · go_ret
    exact ⟨rfl, hb1⟩
  rename_i hnb
  have hn5 : n ≤ 1048576 := by omega
  go_wp2_with (first
    | (go_at_call 6; refine (H6.out _ hb1).mono ?_; rintro e w2 ⟨⟨k, rfl, hk⟩, hb2⟩; have HK : Hid (k = 0 ∨ (k = 4 ∧ Num f n) ∨ (k ≠ 0 ∧ k ≠ 4 ∧ 0 < n ∧ ¬ Canon f n)) := hk; have hb02 := hb1.trans (hb2.mono hb1.size); clear hk hb2)
    | fail)
  · go_ret
    exact ⟨rfl, hb02⟩
  have hk0 : ((k.toNat : Int) == 0) = false := by assumption
  have HF : Hid (Fit f n k) := by
    rcases HK.out with rfl | ⟨rfl, h⟩ | ⟨_, h4, h5, h6⟩
    · simp at hk0
    · exact ⟨.inl ⟨rfl, h⟩⟩
    · exact ⟨.inr ⟨h4, h5, h6⟩⟩
  clear HK H6 hb1
  go_wp2_with (first
    | (go_at_call 7; refine (H7.out _ hb02 hn5).mono ?_)
    | fail)
  rintro e w3 ⟨⟨M, cm, rfl, _, _, hm⟩, hb3⟩
  have hb03 := hb02.trans (hb3.mono hb02.size)
  clear hb3 hb02
  go_wp2_with (first
    | (go_at_call 7; refine (H7.out _ hb03 hn5).mono ?_)
    | fail)
  rintro e w4 ⟨⟨G, cg, rfl, hcg, _, hg⟩, hb4⟩
  have HC : Hid (Below w.heap.size w w4 ∧ Byt w4.heap.size w4 M n f ∧ Byt w4.heap.size w4 G n f) := ⟨hb03.trans (hb4.mono hb03.size), (hm.below hb4 (Nat.le_refl _)).mono hb4.size, hg⟩
  clear hb4 hb03 hm hg H7
  go_wp2_with (first
    | (go_at_call 8; refine (HD1.out _ _ _ _).mono ?_)
    | fail)
  rintro r w5 ⟨hb5, d, rfl, hd⟩
  have hb' : Below w4.heap.size w4 (w5.alloc (.cells #[.pointer (some ⟨d, 0, none⟩), .int .i32 0] 28)) := hb5.alloc hb5.size _
  have HO : Hid (One w (w5.alloc (.cells #[.pointer (some ⟨d, 0, none⟩), .int .i32 0] 28)) n f M G cg w5.heap.size d k) := ⟨HC.out.1.trans (hb'.mono HC.out.1.size), (HC.out.2.1.below hb' (Nat.le_refl _)).mono hb'.size, (HC.out.2.2.below hb' (Nat.le_refl _)).mono hb'.size, Vat.new hd⟩
  have p0 := HO.out.v.c0
  have p1 := HO.out.v.c1
  clear hb5 hb' hd HC HD1
  go_wp2_with (first
    | (go_at_call 9; refine (HO.out.int HE.out h2 HF.out hn5 hcg).mono ?_)
    | fail)
  rintro r w6 ⟨ha, hb6⟩
  obtain ⟨v, ev, rfl, HR⟩ := ha.res
  replace HO := One.after HO hb6
  have q0 := HO.out.v.c0
  have q1 := HO.out.v.c1
  clear ha hb6 p0 p1
  go_wp2_with (first
    | (go_at_call 10; refine (HO.out.raw hcg).mono ?_)
    | fail)
  rintro r w7 ⟨rfl, hb7⟩
  replace HO := One.after HO hb7
  clear hb7 q0 q1
  have k11 : Calls Tryd.prog 11 #[.slice M n cm] w7 fun e w' => Says e (Canon f n) ∧ Drew w7 w' := (canon_any w7.heap.size M n cm f w7 HO.out.m).mono (by
    rintro e w' ⟨h1, h2⟩
    exact ⟨h1, ⟨h2⟩⟩)
  rcases HR.out.ex with ⟨hC, hv, rfl⟩ | ⟨hC, rfl, t, p, rfl⟩
  · have hN := HF.out.num hC
    have hr := parse_range hN hv
    have HT : Hid (itoaL v = txt f 0 n) := itoa_canon hN hC hv
    have HI : Hid (∀ W, Calls Tryd.prog 12 #[.int .i64 v] W fun e w' => e = .returned (.string ⟨(txt f 0 n).toArray⟩) ∧ Below W.heap.size W w') := fun W => (itoa_any v hr.1 hr.2 W).mono (by
      rintro e w' ⟨⟨s, rfl, hs⟩, hb⟩
      obtain rfl : s = ⟨(txt f 0 n).toArray⟩ := ByteArray.ext (Array.toList_inj.mp (by rw [hs, HT.out]))
      exact ⟨rfl, hb⟩)
    have HCM : Hid (∀ W, Below w7.heap.size w7 W → (convert 22 9 (.slice M n cm)).run Tryd.prog W = .ok (.string ⟨(txt f 0 n).toArray⟩) W) := fun W hb => conv_of' (HO.out.m.below hb (Nat.le_refl _)) (num_pos hN) cm
    have HCG : Hid (∀ W, Below w7.heap.size w7 W → (convert 22 9 (.slice G n n)).run Tryd.prog W = .ok (.string ⟨(txt f 0 n).toArray⟩) W) := fun W hb => conv_of' (HO.out.g.below hb (Nat.le_refl _)) (num_pos hN) n
    clear hv hr HT hN
    generalize (⟨(txt f 0 n).toArray⟩ : ByteArray) = tx at *
    have hsb : (tx.toList == tx.toList) = true := by simp
    go_wp2_with (first
      | (go_at_call 11; refine k11.mono ?_; rintro e w8 ⟨⟨b, rfl, hb⟩, hd8⟩; clear k11; obtain rfl : b = true := hb.2 hC; clear hb)
      | (go_at_call 12; refine (HI.out _).mono ?_; rintro e w9 ⟨rfl, hb9⟩; have hb08 := Below.trans HO.out.below (hd8.below.mono HO.out.below.size); have hb09 := hb08.trans (hb9.mono hb08.size); have hb79 := hd8.below.trans (hb9.mono hd8.below.size); have hcm := HCM.out _ hb79; have hcgg := HCG.out _ hb79; clear HI)
      | fail)
    go_ret
    exact ⟨rfl, hb09⟩
  · go_wp2_with (first
      | (go_at_call 11; refine k11.mono ?_; rintro e w8 ⟨⟨b, rfl, hb⟩, hd8⟩; clear k11; obtain rfl : b = false := Bool.eq_false_iff.2 (fun h => hC (hb.1 h)); clear hb)
      | fail)
    go_ret
    have hb8 := hd8.below
    exact ⟨rfl, HO.out.below.trans (hb8.mono HO.out.below.size)⟩
end Go.Proofs.Qxb6628404aDoor
