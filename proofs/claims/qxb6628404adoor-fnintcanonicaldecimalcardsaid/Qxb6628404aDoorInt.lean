/-
  Raw (10), integer (19), Int (9).
-/
import Derived.Test.Qxb6628404aDoorVal
import Derived.Laws.IdiomStrings
namespace Go.Proofs.Qxb6628404aDoor
open Go.RowKit Go.Lib

set_option maxRecDepth 100000 in
set_option maxHeartbeats 400000 in
theorem rawV_any (B d : Nat) (A : Option Addr) (n c : Nat) (N : Nat) (K : Nat → UInt8) (S E X : Nat → Int) (i s e : Nat) (hi : i < N) (hs : S i = (s : Int)) (he : E i = (e : Int)) (hse : s ≤ e) (hec : e ≤ c) (A' : Option Addr) (Le : Nat) (hA' : A' = if e = s then A else A.map (·.add s)) (hLe : Le = e - s) (w : World) (hB : B ≤ w.heap.size) (hD : Doc B w d (.slice A n c) N K S E X) :
    Calls Tryd.prog 10 #[.agg #[.pointer (some ⟨d, 0, none⟩), .int .i32 (i : Int)]] w fun r w' => r = .returned (.slice A' Le Le) ∧ Below w.heap.size w w' := by
  have hb1 : Below w.heap.size w (w.alloc (.cells #[.pointer (some ⟨d, 0, none⟩), .int .i32 (i : Int)] 28)) := (Below.refl _ w).alloc (Nat.le_refl _) _
  have k22 := raw_any B d A n c N K S E X i s e hi hs he hse hec A' Le hA' hLe _ (Nat.le_trans hB hb1.size) (hD.below hb1 hB)
  clear hA' hLe hs he hse hec hD
  go_enter Tryd.func10, Tryd.ntmps10
  go_wp2_with (first
    | (go_at_call 22; refine k22.mono ?_; rintro r w2 ⟨rfl, hb2⟩; clear k22)
    | fail)
  go_ret
  exact ⟨rfl, hb1.trans (hb2.mono hb1.size)⟩

theorem conv_of {B : Nat} {W : World} {A : Option Addr} {n : Nat} {f : Nat → UInt8} (h : Byt B W A n f) (hn : 0 < n) (c : Nat) : (convert 22 9 (.slice A n c)).run Tryd.prog W = .ok (.string ⟨(txt f 0 n).toArray⟩) W := by
  obtain ⟨b, o, rfl, _, _⟩ := h.cells 0 hn
  have := run_convert_bytes_back (P := Tryd.prog) W 22 9 5 ⟨b, o, none⟩ c (txt f 0 n) Tryd.underlying22 Tryd.underlying5 Tryd.underlying9 (fun j hj => by
    rw [txt_length] at hj
    obtain ⟨b', o', h1, _, h3⟩ := h.cells j hj
    cases h1
    rw [show (⟨b, o, none⟩ : Addr).add j = ⟨b, o + j, none⟩ by simp [Addr.add], h3]
    simp [txt])
  rwa [txt_length] at this

set_option maxRecDepth 100000 in
set_option maxHeartbeats 400000 in
theorem integer_num (B d : Nat) (A : Option Addr) (n c : Nat) (N : Nat) (K : Nat → UInt8) (S E X : Nat → Int) (i s e : Nat) (hi : i < N) (hK : K i = 4) (hs : S i = (s : Int)) (he : E i = (e : Int)) (hse : s < e) (hec : e ≤ c) (A' : Option Addr) (Le : Nat) (hA' : A' = if e = s then A else A.map (·.add s)) (hLe : Le = e - s) (f : Nat → UInt8) (w : World) (hB : B ≤ w.heap.size) (hD : Doc B w d (.slice A n c) N K S E X) (hS : Byt B w A' Le f) :
    Calls Tryd.prog 19 #[.agg #[.pointer (some ⟨d, 0, none⟩), .int .i32 (i : Int)]] w fun r w' => r = .returned (.tuple #[.string ⟨(txt f 0 Le).toArray⟩, .bool true]) ∧ Below w.heap.size w w' := by
  have hb1 : Below w.heap.size w (w.alloc (.cells #[.pointer (some ⟨d, 0, none⟩), .int .i32 (i : Int)] 28)) := (Below.refl _ w).alloc (Nat.le_refl _) _
  have k24 := kind_any B d _ N K S E X i hi _ (Nat.le_trans hB hb1.size) (hD.below hb1 hB)
  rw [hK] at k24
  have HL : Hid (0 < Le) := by show 0 < Le; omega
  have HS : Hid (Byt B w A' Le f) := hS
  have HR : Hid (∀ W, Below w.heap.size w W → Calls Tryd.prog 10 #[.agg #[.pointer (some ⟨d, 0, none⟩), .int .i32 (i : Int)]] W fun r w' => r = .returned (.slice A' Le Le) ∧ Below W.heap.size W w') := fun W hb =>
    rawV_any B d A n c N K S E X i s e hi hs he (by omega) hec A' Le hA' hLe W (Nat.le_trans hB hb.size) (hD.below hb hB)
  clear hA' hLe hs he hse hec hD hS hK
  go_enter Tryd.func19, Tryd.ntmps19
  go_wp2_with (first
    | (go_at_call 24; refine k24.mono ?_; rintro r w2 ⟨rfl, hb2⟩; clear k24; have hb02 := hb1.trans (hb2.mono hb1.size); have hl0 : w2.cell? ⟨w.heap.size, 0, none⟩ = some (.pointer (some ⟨d, 0, none⟩)) := (by rw [hb2.cell (show w.heap.size < (w.alloc _).heap.size by simp)]; exact cell_at _ _ _ _ _ rfl); have hl1 : w2.cell? ⟨w.heap.size, 1, none⟩ = some (.int .i32 (i : Int)) := (by rw [hb2.cell (show w.heap.size < (w.alloc _).heap.size by simp)]; exact cell_at _ _ _ _ _ rfl))
    | (go_at_call 10; refine (HR.out _ hb02).mono ?_; rintro r w3 ⟨rfl, hb3⟩; have hb03 := hb02.trans (hb3.mono hb02.size); have hcn := conv_of (HS.out.below hb03 hB) HL.out Le)
    | fail)
  go_ret2
  exact ⟨rfl, hb03⟩
end Go.Proofs.Qxb6628404aDoor
