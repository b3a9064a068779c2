/-
  THE LAW 'FnValidityAgreesWithMembershipAndSplitsOverReplicas' (3), on slices that lie in memory.
-/
import Derived.Test.Qxb6628347aValid
namespace Go.Proofs.Qxb6628347a
open Go.RowKit Go.Lib Go.Maps

theorem size22 (w : World) : (sizeOf 22).run Try.prog w = .ok 1 w := by kernel_rfl
theorem elem23 : Try.prog.elem 23 = 22 := by kernel_rfl
section
variable {ops : Array Oper} {rest : List Oper} {op : Oper} {ac : Act} {w : World} {Q : Exit → Act → World → Prop}
theorem add_none (b o k : Nat) : (⟨b, o, none⟩ : Addr).add k = ⟨b, o + k, none⟩ := Addr.add_mid b o k

theorem Grid.low {B : Nat} {w : World} {A : Option Addr} {m k : Nat} {a : Nat → Option Addr} {L C : Nat → Nat} {T : Nat → Nat → ByteArray} (h : Grid B w A m a L C T) (hk : k ≤ m) : Grid B w A k a L C T :=
  ⟨fun i hi => h.outer i (by omega), fun i hi => h.inner i (by omega), by have := h.len; omega⟩
theorem Grid.high {B : Nat} {w : World} {A : Option Addr} {m k c : Nat} {a : Nat → Option Addr} {L C : Nat → Nat} {T : Nat → Nat → ByteArray} (h : Grid B w A m a L C T) (hk : k ≤ m) (hc : m ≤ c) : Grid B w (if c = k then A else A.map (·.add k)) (m - k) (fun i => a (k + i)) (fun i => L (k + i)) (fun i => C (k + i)) (fun i => T (k + i)) := by
  refine ⟨fun i hi => ?_, fun i hi => h.inner (k + i) (by omega), by have := h.len; omega⟩
  obtain ⟨b, o, rfl, h2, h3⟩ := h.outer (k + i) (by omega)
  refine ⟨b, o + k, ?_, h2, by rw [Nat.add_assoc]; exact h3⟩
  rw [if_neg (by omega)]
  simp [add_none]

theorem at_low {A : Option Addr} {m c k : Nat} (hgd : op.guard = none) (x y : Operand) (ho : op.op = .slice 23 x none (some y) none) (hx : ac.eval x = .slice A m c) (hy : ac.eval y = .int .i64 (k : Int)) (hk : k ≤ m) (hc : m ≤ c)
    (h : wpList Try.prog ops Q rest (ac.put op.dst (.slice (if c = 0 then A else A.map (·.add (0 * 1))) k c)) w) : wpList Try.prog ops Q (op :: rest) ac w := by
  refine wpList_plain hgd fun K hK' => ?_
  have hu : Try.prog.underlying 23 = some (.slice (Try.prog.elem 23)) := by rw [elem23]; exact Try.underlying23
  have hrun : (Instr.slice 23 (.slice A m c) none (some (.int .i64 (k : Int))) none).run Try.prog w = .ok (.slice (if c = 0 then A else A.map (·.add (0 * 1))) k c) w := by
    rw [run_slice_h w 23 A m c hu .i64 (k : Int) (by omega) (by omega), elem23, size22]
    simp [sliced]
  unfold Oper.wp
  simp [execOp, ho, hx, hy, Result.andThen, run_sliceAt_slice _ _ _ _ _ _ hu]
  simp [hrun]
  exact hK' _ _ h
theorem at_high {A : Option Addr} {m c k : Nat} (hgd : op.guard = none) (x y : Operand) (ho : op.op = .slice 23 x (some y) none none) (hx : ac.eval x = .slice A m c) (hy : ac.eval y = .int .i64 (k : Int)) (hk : k ≤ m) (hc : m ≤ c)
    (h : ∀ A' C', (∀ B w a L C T, Grid B w A m a L C T → Grid B w A' (m - k) (fun i => a (k + i)) (fun i => L (k + i)) (fun i => C (k + i)) (fun i => T (k + i))) → wpList Try.prog ops Q rest (ac.put op.dst (.slice A' (m - k) C')) w) : wpList Try.prog ops Q (op :: rest) ac w := by
  refine wpList_plain hgd fun K hK' => ?_
  have hu : Try.prog.underlying 23 = some (.slice (Try.prog.elem 23)) := by rw [elem23]; exact Try.underlying23
  have hrun : (Instr.slice 23 (.slice A m c) (some (.int .i64 (k : Int))) none none).run Try.prog w = .ok (.slice (if c = k then A else A.map (·.add k)) (m - k) (c - k)) w := by
    rw [run_slice_l w 23 A m c hu .i64 (k : Int) (by omega) (by omega), elem23, size22]
    simp [sliced]
  unfold Oper.wp
  simp [execOp, ho, hx, hy, Result.andThen, run_sliceAt_slice _ _ _ _ _ _ hu]
  simp only [hrun]
  exact hK' _ _ (h _ _ (fun B w a L C T hG => hG.high hk hc))
theorem sl_here {P : Program} {x : Operand} {l h m : Option Operand} {d : Option Tmp} {t ty : TypeId} {p : String} {af : Array Edge} {g : Option (Nat × Bool)}
    (hw : wpList P ops Q (⟨d, .slice ty x l h m, t, p, af, g⟩ :: rest) ac w) : wpList P ops Q (⟨d, .slice ty x l h m, t, p, af, g⟩ :: rest) ac w := hw
end

/-- 'buildResult(values, logs).Validity()' in two calls: the second from what the first leaves. -/
theorem valid_of {B : Nat} {w w1 : World} {p n : Nat} {S : Nat → ByteArray} {m : Nat} {a : Nat → Option Addr} {L C : Nat → Nat} {T : Nat → Nat → ByteArray} {A A2 : Option Addr} (hB : B ≤ w.heap.size) (hS : Strs B w A n S) (hG : Grid B w A2 m a L C T) (hb : Below w.heap.size w w1)
    (hR : Res w1.heap.size w1 p n S m (fun i => .slice (a i) (L i) (C i))) (hn : n ≤ 4294967296) (hm : m ≤ 4294967296) :
    Calls Try.prog 8 #[.pointer (some ⟨p, 0, none⟩)] w1 fun e w' => Says e (AllIn n S m L T) ∧ Below w1.heap.size w1 w' :=
  valid_any p n S m a L C T w1 hR (fun i hi => ((hG.inner i hi).below hb hB).mono (Nat.le_trans hB hb.size)) hS.small hn hm

theorem all_split {n : Nat} {S : Nat → ByteArray} {m k : Nat} {L : Nat → Nat} {T : Nat → Nat → ByteArray} (hk : k ≤ m) : AllIn n S m L T ↔ AllIn n S k L T ∧ AllIn n S (m - k) (fun i => L (k + i)) (fun i => T (k + i)) := by
  constructor
  · exact fun h => ⟨fun i hi => h i (by omega), fun i hi => h (k + i) (by omega)⟩
  · rintro ⟨h1, h2⟩ i hi j hj
    by_cases h : i < k
    · exact h1 i h j hj
    · have e : k + (i - k) = i := by omega
      have := h2 (i - k) (by omega) j (by show j < L (k + (i - k)); rw [e]; exact hj)
      change IsIn n S (T (k + (i - k)) j) at this
      rwa [e] at this

theorem bools {ba bw bl br : Bool} {p q r : Prop} (h1 : ba = true ↔ p) (h2 : bw = true ↔ p) (h3 : bl = true ↔ q) (h4 : br = true ↔ r) (h : p ↔ q ∧ r) : ba = (bl && br) ∧ bw = (bl && br) := by
  cases ba <;> cases bw <;> cases bl <;> cases br <;> simp_all

set_option maxRecDepth 100000 in
set_option maxHeartbeats 400000 in
theorem law3_any (B : Nat) (A : Option Addr) (n c : Nat) (S : Nat → ByteArray) (A2 : Option Addr) (m c2 : Nat) (a : Nat → Option Addr) (L C : Nat → Nat) (T : Nat → Nat → ByteArray) (z : Int) (w : World) (hB : B ≤ w.heap.size) (hS : Strs B w A n S) (hG : Grid B w A2 m a L C T) (hc : m ≤ c2) :
    Calls Try.prog 3 #[.slice A n c, .slice A2 m c2, .int .i64 z] w fun e w' => e = .returned (.bool true) ∧ Below w.heap.size w w' := by
  have hml := hG.len
  have k5 := bytes5_any B A n c S A2 m c2 a L C T z w hS hG
  have k6 := sizeOK_any B A n c S A2 m c2 a L C T w hS hG
  by_cases hz : 0 ≤ z ∧ z ≤ (m : Int)
  · obtain ⟨k, rfl⟩ : ∃ k : Nat, z = (k : Int) := ⟨z.toNat, by omega⟩
    have hkm : k ≤ m := by omega
    have hz1 : ¬ (k : Int) < 0 := by omega
    have hz2 : ¬ (m : Int) < (k : Int) := by omega
    have HS : Hid (Strs B w A n S) := hS
    have HG : Hid (Grid B w A2 m a L C T) := hG
    clear hS hG hz
    go_enter Try.func3, Try.ntmps3
    go_wp2_with (first
      | (go_at_call 5; refine k5.mono ?_; rintro e w0 ⟨⟨b0, rfl, hb0⟩, rfl⟩; have HB0 : Hid (b0 = true → n + m + tot L m ≤ 1048576) := hb0; clear hb0 k5; cases b0)
      | (go_at_call 6; refine k6.mono ?_; rintro e w0 ⟨⟨b0, rfl, _⟩, rfl⟩; clear k6; cases b0)
      | fail)
    · go_ret
      exact ⟨rfl, Below.refl _ _⟩
    · go_ret
      exact ⟨rfl, Below.refl _ _⟩
    · have hbd := HB0.out trivial
      refine (build_any B A n c S A2 m c2 a L C T _ hB HS.out HG.out (by omega) (by omega)).mono ?_
      rintro e w1 ⟨hb1, p1, rfl, hR1⟩
      have k8 := valid_of hB HS.out HG.out hb1 hR1 (by omega) (by omega)
      have HR1 : Hid (Res w1.heap.size w1 p1 n S m (fun i => .slice (a i) (L i) (C i))) := hR1
      clear hR1
      go_wp2_with (first
        | (go_at_call 8; refine k8.mono ?_; rintro e w2 ⟨⟨bw, rfl, hbw⟩, hb2⟩; have HBW : Hid (bw = true ↔ AllIn n S m L T) := hbw; clear hbw k8)
        | (with_reducible refine sl_here ?_; refine at_low rfl _ _ rfl rfl rfl hkm hc ?_)
        | fail)
      have hb02 : Below w0.heap.size w0 w2 := hb1.trans (hb2.mono hb1.size)
      have hB2 : B ≤ w2.heap.size := Nat.le_trans hB hb02.size
      have HS2 : Hid (Strs B w2 A n S) := HS.out.below hb02 hB
      have HG2 : Hid (Grid B w2 A2 m a L C T) := HG.out.below hb02 hB
      refine (build_any B A n c S A2 k c2 a L C T _ hB2 HS2.out (HG2.out.low hkm) (by omega) (by omega)).mono ?_
      rintro e w3 ⟨hb3, p3, rfl, hR3⟩
      have k8 := valid_of hB2 HS2.out (HG2.out.low hkm) hb3 hR3 (by omega) (by omega)
      clear hR3 HR1 HS HG hb1 hb2
      go_wp2_with (first
        | (go_at_call 8; refine k8.mono ?_; rintro e w4 ⟨⟨bl, rfl, hbl⟩, hb4⟩; have HBL : Hid (bl = true ↔ AllIn n S k L T) := hbl; clear hbl k8)
        | (with_reducible refine sl_here ?_; refine at_high rfl _ _ rfl rfl rfl hkm hc ?_; intro A3 c3 hA3)
        | fail)
      have hb24 : Below w2.heap.size w2 w4 := hb3.trans (hb4.mono hb3.size)
      have hb04 : Below w0.heap.size w0 w4 := hb02.trans (hb24.mono hb02.size)
      have hB4 : B ≤ w4.heap.size := Nat.le_trans hB hb04.size
      have HS4 : Hid (Strs B w4 A n S) := HS2.out.below hb24 hB2
      have HG4 : Hid (Grid B w4 A2 m a L C T) := HG2.out.below hb24 hB2
      refine (build_any B A n c S A3 (m - k) c3 _ _ _ _ _ hB4 HS4.out (hA3 _ _ _ _ _ _ HG4.out) (by omega) (by omega)).mono ?_
      rintro e w5 ⟨hb5, p5, rfl, hR5⟩
      have k8 := valid_of hB4 HS4.out (hA3 _ _ _ _ _ _ HG4.out) hb5 hR5 (by omega) (by omega)
      clear hR5 HS2 HG2 hb3 hb4
      have k9 := fun (w : World) (h1 : Strs B w A n S) (h2 : Grid B w A2 m a L C T) => allLogged_any B A n c S A2 m c2 a L C T w h1 h2
      go_wp2_with (first
        | (go_at_call 8; refine k8.mono ?_; rintro e w6 ⟨⟨br, rfl, hbr⟩, hb6⟩; have HBR : Hid (br = true ↔ AllIn n S (m - k) (fun i => L (k + i)) (fun i => T (k + i))) := hbr; clear hbr k8)
        | (go_at_call 9; have hb46 : Below w4.heap.size w4 w6 := hb5.trans (hb6.mono hb5.size); refine (k9 _ (HS4.out.below hb46 hB4) (HG4.out.below hb46 hB4)).mono ?_; rintro e w7 ⟨⟨ba, rfl, hba⟩, rfl⟩; obtain ⟨rfl, rfl⟩ : ba = (bl && br) ∧ bw = (bl && br) := bools hba HBW.out HBL.out HBR.out (all_split hkm); clear hba HBW HBL HBR; have HF : Hid (Below w0.heap.size w0 w7) := hb04.trans (hb46.mono hb04.size); cases bl <;> cases br)
        | fail)
      all_goals
        go_ret
        exact ⟨rfl, HF.out⟩
  · have HZ : Hid (¬ (0 ≤ z ∧ z ≤ (m : Int))) := hz
    have hz' : z < 0 ∨ (m : Int) < z := by omega
    clear hS hG hz
    rcases hz' with hz' | hz'
    all_goals
      go_enter Try.func3, Try.ntmps3
      go_wp2_with (first
        | (go_at_call 5; refine k5.mono ?_; rintro e w0 ⟨⟨b0, rfl, hb0⟩, rfl⟩; clear hb0 k5; cases b0)
        | (go_at_call 6; refine k6.mono ?_; rintro e w0 ⟨⟨b0, rfl, _⟩, rfl⟩; clear k6; cases b0)
        | fail)
      all_goals
        go_ret
        exact ⟨rfl, Below.refl _ _⟩
end Go.Proofs.Qxb6628347a
