/-
  FnIntReadsOnlyItsElement (4): its data.
-/
import Derived.Test.Qxb6628404aDoorNum
import Derived.Test.Qxb6628404aDoorOwn
import Derived.Test.Qxb6628404aDoorFixed
import Derived.Test.Qxb6628404aDoorInt2
import Derived.Test.Qxb6628404aDoorNew3
namespace Go.Proofs.Qxb6628404aDoor
open Go.RowKit Go.Lib Go.Maps

/-- The two texts and two copies of each, at world wr. -/
structure Cops (w wr : World) (A A2 : Option Addr) (n m : Nat) (f g : Nat → UInt8) (M1 M2 G1 G2 : Option Addr) : Prop where
  a : Byt w.heap.size wr A n f
  b : Byt w.heap.size wr A2 m g
  m1 : Byt wr.heap.size wr M1 n f
  m2 : Byt wr.heap.size wr M2 m g
  g1 : Byt wr.heap.size wr G1 n f
  g2 : Byt wr.heap.size wr G2 m g
  below : Below w.heap.size w wr

theorem elem_of {w : World} {base : Nat} {A : Option Addr} {N c : Nat} {xs : List UInt8} (h : Own w base A N c xs) (hN : N ≤ 9223372036854775807) (s k : Nat) (f : Nat → UInt8) (hsk : s + k ≤ N) (hx : ∀ j, j < k → xs.getD (s + j) 0 = f j) : Byt w.heap.size w (A.map (·.add s)) k f := by
  refine ⟨fun j hj => ?_, by omega⟩
  obtain ⟨b, o, rfl, h2, h3⟩ := (h.byt hN).cells (s + j) (by omega)
  refine ⟨b, o + s, by simp [Addr.add], h2, ?_⟩
  rw [Nat.add_assoc, h3, hx j hj]

def K3 (j : Nat) : UInt8 := if j = 0 then 2 else if j = 1 then 4 else 4
def S3 (n : Nat) (j : Nat) : Int := if j = 0 then 0 else if j = 1 then 1 else 2 + (n : Int)
def E3 (n m : Nat) (j : Nat) : Int := if j = 0 then (n : Int) + m + 3 else if j = 1 then 1 + (n : Int) else 2 + (n : Int) + m
def X3 (j : Nat) : Int := if j = 0 then 3 else if j = 1 then 2 else 3
theorem new3_here (A4 : Option Addr) (c4 n m : Nat) : Hid (∀ (W : World) (j : Int), Calls Tryd.prog 15 #[.slice A4 (n + 2 + m + 1) c4, .int .u8 2, .int .i32 0, .int .i32 ((n : Int) + m + 3), .int .i32 3, .int .u8 4, .int .i32 1, .int .i32 (1 + (n : Int)), .int .i32 2, .int .u8 4, .int .i32 (2 + (n : Int)), .int .i32 (2 + (n : Int) + m), .int .i32 3, .int .i32 j] W fun r w' => Below W.heap.size W w' ∧ ∃ d, r = .returned (.agg #[.pointer (some ⟨d, 0, none⟩), .int .i32 j]) ∧ Doc w'.heap.size w' d (.slice A4 (n + 2 + m + 1) c4) 3 K3 (S3 n) (E3 n m) X3) :=
  fun W j => new3_any (.slice A4 (n + 2 + m + 1) c4) ⟨_, _, _, rfl⟩ 2 4 4 0 ((n : Int) + m + 3) 3 1 (1 + (n : Int)) 2 (2 + (n : Int)) (2 + (n : Int) + m) 3 j W
theorem new1_here : Hid (∀ (W : World) (G : Option Addr) (n c : Nat), Calls Tryd.prog 8 #[.slice G n c, .int .u8 4, .int .i32 0, .int .i32 (n : Int), .int .i32 1] W fun r w' => Below W.heap.size W w' ∧ ∃ d, r = .returned (.agg #[.pointer (some ⟨d, 0, none⟩), .int .i32 0]) ∧ Doc w'.heap.size w' d (.slice G n c) 1 (fun _ => 4) (fun _ => 0) (fun _ => (n : Int)) (fun _ => 1)) :=
  fun W G n c => new1_any (.slice G n c) ⟨_, _, _, rfl⟩ 4 0 n 1 W

/-- A value (type 28) lies in block x: it points at document d, and d lies there. -/
structure Vat (w : World) (x d : Nat) (i : Int) (T : Value) (N : Nat) (K : Nat → UInt8) (S E X : Nat → Int) : Prop where
  doc : Doc w.heap.size w d T N K S E X
  c0 : w.cell? ⟨x, 0, none⟩ = some (.pointer (some ⟨d, 0, none⟩))
  c1 : w.cell? ⟨x, 1, none⟩ = some (.int .i32 i)
  lt : x < w.heap.size
theorem Doc.mono {B B' : Nat} {w : World} {d : Nat} {T : Value} {N : Nat} {K : Nat → UInt8} {S E X : Nat → Int} (h : Doc B w d T N K S E X) (hB : B ≤ B') : Doc B' w d T N K S E X := by
  obtain ⟨g, h1, h2, h3, h4, h5⟩ := h.ex
  exact ⟨g, h1, h2, by omega, by omega, h5⟩
theorem Vat.new {w : World} {d : Nat} {i : Int} {T : Value} {N : Nat} {K : Nat → UInt8} {S E X : Nat → Int} (h : Doc w.heap.size w d T N K S E X) : Vat (w.alloc (.cells #[.pointer (some ⟨d, 0, none⟩), .int .i32 i] 28)) w.heap.size d i T N K S E X :=
  ⟨(h.below ((Below.refl _ w).alloc (Nat.le_refl _) _) (Nat.le_refl _)).mono (by simp), cell_at _ _ _ _ _ rfl, cell_at _ _ _ _ _ rfl, by simp⟩
theorem Vat.below {w w' : World} {x d : Nat} {i : Int} {T : Value} {N : Nat} {K : Nat → UInt8} {S E X : Nat → Int} (h : Vat w x d i T N K S E X) (hb : Below w.heap.size w w') : Vat w' x d i T N K S E X :=
  ⟨(h.doc.below hb (Nat.le_refl _)).mono hb.size, by rw [hb.cell h.lt]; exact h.c0, by rw [hb.cell h.lt]; exact h.c1, Nat.lt_of_lt_of_le h.lt hb.size⟩
/-- All that lies there when the four calls of Int begin. -/
structure Four (w wr : World) (n m : Nat) (f g : Nat → UInt8) (M1 M2 G1 G2 T : Option Addr) (cT c1 c2 : Nat) (x1 x2 x3 x4 d1 d2 d3 d4 : Nat) : Prop where
  below : Below w.heap.size w wr
  m1 : Byt wr.heap.size wr M1 n f
  m2 : Byt wr.heap.size wr M2 m g
  g1 : Byt wr.heap.size wr G1 n f
  g2 : Byt wr.heap.size wr G2 m g
  t1 : Byt wr.heap.size wr (T.map (·.add 1)) n f
  t2 : Byt wr.heap.size wr (T.map (·.add (2 + n))) m g
  v1 : Vat wr x1 d1 1 (.slice T (n + 2 + m + 1) cT) 3 K3 (S3 n) (E3 n m) X3
  v2 : Vat wr x2 d2 2 (.slice T (n + 2 + m + 1) cT) 3 K3 (S3 n) (E3 n m) X3
  v3 : Vat wr x3 d3 0 (.slice G1 n c1) 1 (fun _ => 4) (fun _ => 0) (fun _ => (n : Int)) (fun _ => 1)
  v4 : Vat wr x4 d4 0 (.slice G2 m c2) 1 (fun _ => 4) (fun _ => 0) (fun _ => (m : Int)) (fun _ => 1)
theorem Four.after {w wr wr' : World} {n m : Nat} {f g : Nat → UInt8} {M1 M2 G1 G2 T : Option Addr} {cT c1 c2 : Nat} {x1 x2 x3 x4 d1 d2 d3 d4 : Nat} (h : Four w wr n m f g M1 M2 G1 G2 T cT c1 c2 x1 x2 x3 x4 d1 d2 d3 d4) (hb : Below wr.heap.size wr wr') : Four w wr' n m f g M1 M2 G1 G2 T cT c1 c2 x1 x2 x3 x4 d1 d2 d3 d4 :=
  ⟨h.below.trans (hb.mono h.below.size), (h.m1.below hb (Nat.le_refl _)).mono hb.size, (h.m2.below hb (Nat.le_refl _)).mono hb.size, (h.g1.below hb (Nat.le_refl _)).mono hb.size, (h.g2.below hb (Nat.le_refl _)).mono hb.size, (h.t1.below hb (Nat.le_refl _)).mono hb.size, (h.t2.below hb (Nat.le_refl _)).mono hb.size, h.v1.below hb, h.v2.below hb, h.v3.below hb, h.v4.below hb⟩

/-- What Int answers, in values. -/
structure IntRes (f : Nat → UInt8) (n : Nat) (v : Int) (e : Value) : Prop where
  ex : (Canon f n ∧ parseIntB 64 (txt f 0 n) = .ok v ∧ e = .nilIface) ∨ (¬ Canon f n ∧ v = 0 ∧ ∃ t p, e = .iface t (.pointer (some p)))
theorem IntAns.res {f : Nat → UInt8} {n : Nat} {r : Ending} (h : IntAns f n r) : ∃ v e, r = .returned (.tuple #[.int .i64 v, e]) ∧ Hid (IntRes f n v e) := by
  rcases h.ex with ⟨v, h1, h2, h3⟩ | ⟨h1, t, p, h3⟩
  · exact ⟨v, _, h3, ⟨.inl ⟨h1, h2, rfl⟩⟩⟩
  · exact ⟨0, _, h3, ⟨.inr ⟨h1, rfl, t, p, rfl⟩⟩⟩
theorem parse_range {f : Nat → UInt8} {n : Nat} (h : Num f n) {v : Int} (hv : parseIntB 64 (txt f 0 n) = .ok v) : -9223372036854775808 ≤ v ∧ v ≤ 9223372036854775807 := by
  obtain ⟨_, h2, h3⟩ := (parse_num h v).1 hv
  split at h2 <;> rename_i hs
  · rw [if_pos hs] at h3
    omega
  · rw [if_neg hs] at h3
    omega
theorem num_pos {f : Nat → UInt8} {n : Nat} (h : Num f n) : 0 < n := by have := h.1; omega

section
variable {w wr : World} {n m : Nat} {f g : Nat → UInt8} {M1 M2 G1 G2 T : Option Addr} {cT c1 c2 : Nat} {x1 x2 x3 x4 d1 d2 d3 d4 : Nat}
theorem Four.int1 (h : Four w wr n m f g M1 M2 G1 G2 T cT c1 c2 x1 x2 x3 x4 d1 d2 d3 d4) (hE : Errs w) (h2 : 2 ≤ w.heap.size) (hN : Num f n) (hn : n ≤ 524288) (hcT : n + 2 + m + 1 ≤ cT) :
    Calls Tryd.prog 9 #[.agg #[.pointer (some ⟨d1, 0, none⟩), .int .i32 1]] wr fun r w' => IntAns f n r ∧ Below wr.heap.size wr w' :=
  int_num wr.heap.size d1 T (n + 2 + m + 1) cT 3 K3 (S3 n) (E3 n m) X3 1 1 (1 + n) (by omega) rfl rfl (by simp [E3]) (by have := num_pos hN; omega) (by omega) (T.map (·.add 1)) n (by rw [if_neg (by have := num_pos hN; omega)]) (by omega) (by omega) f hN wr (Nat.le_refl _) (Nat.le_trans h2 h.below.size) (hE.below h.below h2) h.v1.doc h.t1
theorem Four.int2 (h : Four w wr n m f g M1 M2 G1 G2 T cT c1 c2 x1 x2 x3 x4 d1 d2 d3 d4) (hE : Errs w) (h2 : 2 ≤ w.heap.size) (hM : Num g m) (hm : m ≤ 524288) (hcT : n + 2 + m + 1 ≤ cT) :
    Calls Tryd.prog 9 #[.agg #[.pointer (some ⟨d2, 0, none⟩), .int .i32 2]] wr fun r w' => IntAns g m r ∧ Below wr.heap.size wr w' :=
  int_num wr.heap.size d2 T (n + 2 + m + 1) cT 3 K3 (S3 n) (E3 n m) X3 2 (2 + n) (2 + n + m) (by omega) rfl (by simp [S3]) (by simp [E3]) (by have := num_pos hM; omega) (by omega) (T.map (·.add (2 + n))) m (by rw [if_neg (by have := num_pos hM; omega)]) (by omega) (by omega) g hM wr (Nat.le_refl _) (Nat.le_trans h2 h.below.size) (hE.below h.below h2) h.v2.doc h.t2
theorem Four.int3 (h : Four w wr n m f g M1 M2 G1 G2 T cT c1 c2 x1 x2 x3 x4 d1 d2 d3 d4) (hE : Errs w) (h2 : 2 ≤ w.heap.size) (hN : Num f n) (hn : n ≤ 524288) (hc : n ≤ c1) :
    Calls Tryd.prog 9 #[.agg #[.pointer (some ⟨d3, 0, none⟩), .int .i32 0]] wr fun r w' => IntAns f n r ∧ Below wr.heap.size wr w' :=
  int_num wr.heap.size d3 G1 n c1 1 (fun _ => 4) (fun _ => 0) (fun _ => (n : Int)) (fun _ => 1) 0 0 n (by omega) rfl rfl rfl (num_pos hN) (by omega) G1 n (by split <;> cases G1 <;> simp [Addr.add]) (by omega) (by omega) f hN wr (Nat.le_refl _) (Nat.le_trans h2 h.below.size) (hE.below h.below h2) h.v3.doc h.g1
theorem Four.int4 (h : Four w wr n m f g M1 M2 G1 G2 T cT c1 c2 x1 x2 x3 x4 d1 d2 d3 d4) (hE : Errs w) (h2 : 2 ≤ w.heap.size) (hM : Num g m) (hm : m ≤ 524288) (hc : m ≤ c2) :
    Calls Tryd.prog 9 #[.agg #[.pointer (some ⟨d4, 0, none⟩), .int .i32 0]] wr fun r w' => IntAns g m r ∧ Below wr.heap.size wr w' :=
  int_num wr.heap.size d4 G2 m c2 1 (fun _ => 4) (fun _ => 0) (fun _ => (m : Int)) (fun _ => 1) 0 0 m (by omega) rfl rfl rfl (num_pos hM) (by omega) G2 m (by split <;> cases G2 <;> simp [Addr.add]) (by omega) (by omega) g hM wr (Nat.le_refl _) (Nat.le_trans h2 h.below.size) (hE.below h.below h2) h.v4.doc h.g2
end

end Go.Proofs.Qxb6628404aDoor
