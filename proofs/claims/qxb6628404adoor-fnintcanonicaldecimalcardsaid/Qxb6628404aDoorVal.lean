/-
  VALUES OVER A DOCUMENT: ZZnewValue1 (8), ZZnewValue3 (15), kind (24), raw (22), Raw (10), integer (19).
-/
import Derived.Test.Qxb6628404aDoorLeaf
import Derived.BigCall
import Derived.Deep.MidRow
namespace Go.Proofs.Qxb6628404aDoor
open Go.RowKit Go.Lib

/-- The cells of a node. -/
def nodeRow (k : UInt8) (s e x : Int) : List Value := [.int .u8 (k.toNat : Int), .bool false, .int .i32 s, .int .i32 e, .int .i32 x]
/-- A document in block d: the text's slice, N nodes. -/
structure Doc (B : Nat) (w : World) (d : Nat) (T : Value) (N : Nat) (K : Nat → UInt8) (S E X : Nat → Int) : Prop where
  ex : ∃ g, w.cell? ⟨d, 0, none⟩ = some T ∧ w.cell? ⟨d, 1, none⟩ = some (.slice (some ⟨g, 0, none⟩) N N) ∧ d < B ∧ g < B ∧ ∀ i, i < N → w.rangeAt g (i * 5) (nodeRow (K i) (S i) (E i) (X i))
theorem Doc.below {B B' : Nat} {w w' : World} {d : Nat} {T : Value} {N : Nat} {K : Nat → UInt8} {S E X : Nat → Int} (h : Doc B w d T N K S E X) (hb : Below B' w w') (hB : B ≤ B') : Doc B w' d T N K S E X := by
  obtain ⟨g, h1, h2, h3, h4, h5⟩ := h.ex
  exact ⟨g, by rw [hb.cell (show d < B' by omega)]; exact h1, by rw [hb.cell (show d < B' by omega)]; exact h2, h3, h4, fun i hi j v hv => by rw [hb.cell (show g < B' by omega)]; exact h5 i hi j v hv⟩

theorem below_drew {B : Nat} {a w : World} (h : Below B a w) (n : Nat) : Below B a (w.drewN n) := h.trans ⟨rfl, rfl, rfl, Nat.le_refl _, fun _ _ => rfl⟩
theorem cell_at (W : World) (cs : Array Value) (t : TypeId) (b j : Nat) (hb : b = W.heap.size) : (W.alloc (.cells cs t)).cell? ⟨b, j, none⟩ = cs[j]? := by
  subst hb
  exact cell_of_row _ _ _ _ _ _ (heap_alloc_new W (.cells cs t))
theorem rangeAt_new (w : World) (cs : Array Value) (t : TypeId) : (w.alloc (.cells cs t)).rangeAt w.heap.size 0 cs.toList := fun j v hv => by
  rw [Nat.zero_add, cell_of_row _ _ _ _ _ _ (heap_alloc_new w (.cells cs t))]
  simpa using hv

set_option maxRecDepth 100000 in
set_option maxHeartbeats 400000 in
theorem new1_any (T : Value) (hT : ∃ a n c, T = .slice a n c) (k : UInt8) (s e x : Int) (w : World) :
    Calls Tryd.prog 8 #[T, .int .u8 (k.toNat : Int), .int .i32 s, .int .i32 e, .int .i32 x] w fun r w' => Below w.heap.size w w' ∧ ∃ d, r = .returned (.agg #[.pointer (some ⟨d, 0, none⟩), .int .i32 0]) ∧ Doc w'.heap.size w' d T 1 (fun _ => k) (fun _ => s) (fun _ => e) (fun _ => x) := by
  obtain ⟨a, n, c, rfl⟩ := hT
  go_enter Tryd.func8, Tryd.ntmps8
  go_wp2
  refine bodyPost_ret (v := .agg #[.pointer (some ⟨w.heap.size + 1 + 1, 0, none⟩), .int .i32 0]) (by simp [results, Tryd.results8, go_sem]) rfl ⟨?_, _, rfl, w.heap.size + 1, ?_, ?_, ?_, ?_, fun i hi => ?_⟩
  · exact (((Below.refl _ w).alloc (Nat.le_refl _) _).alloc (by simp) _).alloc (by simp; omega) _
  · rw [cell_at _ _ _ _ _ (by simp)]
    rfl
  · rw [cell_at _ _ _ _ _ (by simp)]
    rfl
  · simp
  · simp
  · rw [show i = 0 by omega, Nat.zero_mul]
    refine World.rangeAt_alloc ?_ _
    have := rangeAt_new (w.alloc (.cells #[.pointer (some ⟨w.heap.size + 1 + 1, 0, none⟩), .int .i32 0] 28)) #[.int .u8 (k.toNat : Int), .bool false, .int .i32 s, .int .i32 e, .int .i32 x] 42
    rw [World.size_alloc] at this
    exact this

set_option maxRecDepth 100000 in
set_option maxHeartbeats 400000 in
theorem kind_any (B d : Nat) (T : Value) (N : Nat) (K : Nat → UInt8) (S E X : Nat → Int) (i : Nat) (hi : i < N) (w : World) (hB : B ≤ w.heap.size) (hD : Doc B w d T N K S E X) :
    Calls Tryd.prog 24 #[.agg #[.pointer (some ⟨d, 0, none⟩), .int .i32 (i : Int)]] w fun r w' => r = .returned (.int .u8 ((K i).toNat : Int)) ∧ Below w.heap.size w w' := by
  obtain ⟨g, h1, h2, h3, h4, h5⟩ := hD.ex
  have c1 : (w.alloc (.cells #[.pointer (some ⟨d, 0, none⟩), .int .i32 (i : Int)] 28)).cell? ⟨d, 1, none⟩ = some (.slice (some ⟨g, 0, none⟩) N N) := by rw [World.cell?_alloc_lt _ _ _ (show d < w.heap.size by omega)]; exact h2
  have c2 : (w.alloc (.cells #[.pointer (some ⟨d, 0, none⟩), .int .i32 (i : Int)] 28)).cell? ⟨g, i * 5, none⟩ = some (.int .u8 ((K i).toNat : Int)) := by rw [World.cell?_alloc_lt _ _ _ (show g < w.heap.size by omega)]; exact h5 i hi 0 _ rfl
  have hi' : (i : Int) < (N : Int) := by omega
  have hi0 : (0 : Int) ≤ (i : Int) := by omega
  clear h5 h1 hD
  go_enter Tryd.func24, Tryd.ntmps24
  go_wp2
  go_quiet (fail)
  go_wp2
  go_ret
  exact ⟨rfl, below_drew ((Below.refl _ w).alloc (Nat.le_refl _) _) _⟩

theorem info42 : (Tryd.prog.info? 42).map (·.size) = some 5 := by kernel_rfl
section
variable {ops : Array Oper} {rest : List Oper} {op : Oper} {a : Act} {w : World} {Q : Exit → Act → World → Prop} {b o : Nat}
theorem ld_here {P : Program} (ty : TypeId) {x : Operand} {d : Option Tmp} {t : TypeId} {p : String} {af : Array Edge} {g : Option (Nat × Bool)}
    (h : wpList P ops Q (⟨d, .load ty x, t, p, af, g⟩ :: rest) a w) : wpList P ops Q (⟨d, .load ty x, t, p, af, g⟩ :: rest) a w := h
theorem load_node {k : UInt8} {s e y : Int} (hgd : op.guard = none) (x : Operand) (ho : op.op = .load 42 x) (hx : a.eval x = .pointer (some ⟨b, o, none⟩)) (hc : w.rangeAt b o (nodeRow k s e y))
    (h : wpList Tryd.prog ops Q rest (a.put op.dst (.agg #[.int .u8 (k.toNat : Int), .bool false, .int .i32 s, .int .i32 e, .int .i32 y])) w) : wpList Tryd.prog ops Q (op :: rest) a w :=
  wpList_load_mid hgd 42 x ho b o hx (nodeRow k s e y) _ hc Tryd.underlying42 rfl info42 h
end

theorem size5 (w : World) : (sizeOf 5).run Tryd.prog w = .ok 1 w := by kernel_rfl
theorem elem22 : Tryd.prog.elem 22 = 5 := by kernel_rfl
theorem slice22 (W : World) (A : Option Addr) (n c s e : Nat) (hse : s ≤ e) (hec : e ≤ c) : (Instr.slice 22 (.slice A n c) (some (.int .i32 (s : Int))) (some (.int .i32 (e : Int))) (some (.int .i32 (e : Int)))).run Tryd.prog W = .ok (.slice (if e = s then A else A.map (·.add s)) (e - s) (e - s)) W := by
  have hu : Tryd.prog.underlying 22 = some (.slice (Tryd.prog.elem 22)) := by rw [elem22]; exact Tryd.underlying22
  rw [run_slice_lhm W 22 A n c hu .i32 .i32 .i32 _ _ _ (by omega) (by omega) (by omega) (by omega), elem22, size5]
  simp [sliced]

set_option maxRecDepth 100000 in
set_option maxHeartbeats 400000 in
theorem raw_any (B d : Nat) (A : Option Addr) (n c : Nat) (N : Nat) (K : Nat → UInt8) (S E X : Nat → Int) (i s e : Nat) (hi : i < N) (hs : S i = (s : Int)) (he : E i = (e : Int)) (hse : s ≤ e) (hec : e ≤ c) (A' : Option Addr) (Le : Nat) (hA' : A' = if e = s then A else A.map (·.add s)) (hLe : Le = e - s) (w : World) (hB : B ≤ w.heap.size) (hD : Doc B w d (.slice A n c) N K S E X) :
    Calls Tryd.prog 22 #[.pointer (some ⟨d, 0, none⟩), .int .i32 (i : Int)] w fun r w' => r = .returned (.slice A' Le Le) ∧ Below w.heap.size w w' := by
  obtain ⟨g, h1, h2, h3, h4, h5⟩ := hD.ex
  have hsl : ∀ W, (Instr.slice 22 (.slice A n c) (some (.int .i32 (s : Int))) (some (.int .i32 (e : Int))) (some (.int .i32 (e : Int)))).run Tryd.prog W = .ok (.slice A' Le Le) W := fun W => by rw [hA', hLe]; exact slice22 W A n c s e hse hec
  clear hA' hLe hse hec
  have R : Hid (w.rangeAt g (i * 5) (nodeRow (K i) s e (X i))) := by have := h5 i hi; rwa [hs, he] at this
  have hi' : (i : Int) < (N : Int) := by omega
  have hi0 : (0 : Int) ≤ (i : Int) := by omega
  clear h5 hD hs he
  go_enter Tryd.func22, Tryd.ntmps22
  go_wp2_with (first
    | (with_reducible refine ld_here 42 ?_; refine load_node rfl _ rfl rfl R.out ?_)
    | go_in)
  have c1 : (w.alloc (.cells #[.int .u8 ((K i).toNat : Int), .bool false, .int .i32 (s : Int), .int .i32 (e : Int), .int .i32 (X i)] 42)).cell? ⟨d, 0, none⟩ = some (.slice A n c) := by rw [World.cell?_alloc_lt _ _ _ (show d < w.heap.size by omega)]; exact h1
  go_quiet (fail)
  go_wp2
  go_ret
  exact ⟨rfl, below_drew ((Below.refl _ w).alloc (Nat.le_refl _) _) _⟩
end Go.Proofs.Qxb6628404aDoor
