/-
  A SLICE OF BYTES THAT THE CALL ITSELF BUILDS BY append.
-/
import Derived.Test.Qxb6628404aDoorCopy
import Derived.Maps.AppendAt
import Derived.Maps.RangeWalk
namespace Go.Proofs.Qxb6628404aDoor
open Go.RowKit Go.Lib Go.Maps

def u8v (c : UInt8) : Value := .int .u8 (c.toNat : Int)
/-- The slice at A, of N bytes, lies in memory from block 'base' on and holds xs. -/
structure Own (w : World) (base : Nat) (A : Option Addr) (N c : Nat) (xs : List UInt8) : Prop where
  len : xs.length = N
  row : w.ownsRow base 5 1 (.slice A N c) N (xs.map u8v)

theorem Own.byt {w : World} {base : Nat} {A : Option Addr} {N c : Nat} {xs : List UInt8} (h : Own w base A N c xs) (hN : N ≤ 9223372036854775807) : Byt w.heap.size w A N (fun j => xs.getD j 0) := by
  have hl := h.len
  have hg : ∀ j, j < N → (xs.map u8v)[j]? = some (.int .u8 ((xs.getD j 0).toNat : Int)) := fun j hj => by
    rw [List.getElem?_map, List.getD_eq_getElem?_getD, List.getElem?_eq_getElem (by omega)]
    rfl
  refine ⟨fun j hj => ?_, hN⟩
  rcases h.row.2 with ⟨h1, h2⟩ | ⟨g, cap, cur, h1, _, h3, h4, h5, h6, h7⟩
  · omega
  · cases h1
    refine ⟨g, 0, rfl, (Array.getElem?_eq_some_iff.1 h3).1, ?_⟩
    rw [Nat.zero_add, cell_of_row _ _ _ _ _ _ h3, ← hg j hj, ← h7, List.getElem?_take, if_pos (by omega)]
    simp
theorem Own.cap {w : World} {base : Nat} {A : Option Addr} {N c : Nat} {xs : List UInt8} (h : Own w base A N c xs) : N ≤ c := by
  rcases h.row.2 with ⟨h1, h2⟩ | ⟨g, cap, cur, h1, _, h3, h4, h5, h6, h7⟩
  · cases h1
    omega
  · cases h1
    omega

theorem Own.below {w w' : World} {base B : Nat} {A : Option Addr} {N c : Nat} {xs : List UInt8} (h : Own w base A N c xs) (hb : Below B w w') (hB : w.heap.size ≤ B) : Own w' base A N c xs := by
  refine ⟨h.len, h.row.1, ?_⟩
  rcases h.row.2 with h1 | ⟨g, cap, cur, h1, h2, h3, r⟩
  · exact .inl h1
  · exact .inr ⟨g, cap, cur, h1, h2, by rw [hb.block g (Nat.lt_of_lt_of_le (Array.getElem?_eq_some_iff.1 h3).1 hB)]; exact h3, r⟩

section
variable {ops : Array Oper} {rest : List Oper} {op : Oper} {ac : Act} {w : World} {Q : Exit → Act → World → Prop}
theorem own_made {w w' : World} {base k : Nat} (h : w'.ownsRow base 5 1 (.slice (some ⟨w.heap.size, 0, none⟩) 0 k) 0 []) : Own w' base (some ⟨w.heap.size, 0, none⟩) 0 k [] := ⟨rfl, h⟩

theorem app_one {base : Nat} {A : Option Addr} {N c : Nat} {xs : List UInt8} {s : UInt8} {v : Int} (hsv : v = (s.toNat : Int)) {t : TypeId} (hgd : op.guard = none) (s1 x1 : Operand) (ho : op.op = .call { callee := .builtin .append, args := #[s1, x1], argTypes := #[22, 22] })
    (hs : ac.eval s1 = .slice A N c) (hx : ac.eval x1 = .slice (some ⟨w.heap.size, 0, none⟩) 1 1) (hown : Own w base A N c xs) (hN : N + 1 ≤ 4294967296) (hbase : base ≤ w.heap.size)
    (h : ∀ A' c' w', Own w' base A' (N + 1) c' (xs ++ [s]) → Below base w w' → wpList Tryd.prog ops Q rest (ac.put op.dst (.slice A' (N + 1) c')) w') : wpList Tryd.prog ops Q (op :: rest) ac (w.alloc (.cells #[.int .u8 v] t)) := by
  obtain ⟨i5, hi5, hz5, hs5, hb5⟩ := info_parts info5
  subst hsv
  refine wpList_append_own _ hgd s1 x1 22 ho base 5 i5 (.int .u8 0) 1 1 Tryd.underlying22 hi5 hz5 hs5 hb5 rfl (by decide) _ _ _ hs (hown.row.alloc _) ⟨w.heap.size, 0, none⟩ 1 1 [u8v s] hx rfl (cell_one_new _ _ _) (by simp [Value.oneCell', u8v]) (by unfold maxLen; omega) (by omega) (by simp; omega) ?_
  intro v' w' hown' hg hnil
  have hbl : Below base w w' := ((Below.refl _ w).alloc hbase _).grown hg (by simp; omega) (fun j hj => (hown.row.lt j hj).1)
  rcases hown'.2 with ⟨_, h2⟩ | ⟨g, cap, cur, h1, _⟩
  · omega
  · subst h1
    exact h _ _ _ ⟨by simp [hown.len], by simpa using hown'⟩ hbl
end
end Go.Proofs.Qxb6628404aDoor
