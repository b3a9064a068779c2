/-
  zzFixed (16).
-/
import Derived.Test.Qxb6628404aDoorCanon
import Derived.Test.Qxb6628404aDoorItoa
import Derived.Deep.RegionWith
namespace Go.Proofs.Qxb6628404aDoor
open Go.RowKit Go.Lib

theorem conv_of' {B : Nat} {W : World} {A : Option Addr} {n : Nat} {f : Nat → UInt8} (h : Byt B W A n f) (hn : 0 < n) (c : Nat) : (convert 22 9 (.slice A n c)).run Tryd.prog W = .ok (.string ⟨(txt f 0 n).toArray⟩) W := by
  obtain ⟨b, o, rfl, _, _⟩ := h.cells 0 hn
  have := run_convert_bytes_back (P := Tryd.prog) W 22 9 5 ⟨b, o, none⟩ c (txt f 0 n) Tryd.underlying22 Tryd.underlying5 Tryd.underlying9 (fun j hj => by
    rw [txt_length] at hj
    obtain ⟨b', o', h1, _, h3⟩ := h.cells j hj
    cases h1
    rw [show (⟨b, o, none⟩ : Addr).add j = ⟨b, o + j, none⟩ by simp [Addr.add], h3]
    simp [txt])
  rwa [txt_length] at this

set_option maxRecDepth 100000 in
set_option maxHeartbeats 400000 in
theorem fixed_yes (B : Nat) (A : Option Addr) (n c : Nat) (f : Nat → UInt8) (v : Int) (hv0 : -9223372036854775808 ≤ v) (hv1 : v ≤ 9223372036854775807) (hn : 0 < n) (hC : Canon f n) (ht : itoaL v = txt f 0 n) (w : World) (hB : B ≤ w.heap.size) (hS : Byt B w A n f) :
    Calls Tryd.prog 16 #[.slice A n c, .int .i64 v, .bool true] w fun e w' => e = .returned (.bool true) ∧ Below w.heap.size w w' := by
  have k11 := canon_any B A n c f w hS
  have HS : Hid (Byt B w A n f) := hS
  have HT : Hid (itoaL v = txt f 0 n) := ht
  have HN : Hid (0 < n) := hn
  have HCo : Hid (∀ W, Below w.heap.size w W → (convert 22 9 (.slice A n c)).run Tryd.prog W = .ok (.string ⟨(txt f 0 n).toArray⟩) W) := fun W hb => conv_of' (HS.out.below hb hB) HN.out c
  have HI : Hid (∀ W, Calls Tryd.prog 12 #[.int .i64 v] W fun e w' => e = .returned (.string ⟨(txt f 0 n).toArray⟩) ∧ Below W.heap.size W w') := fun W => (itoa_any v hv0 hv1 W).mono (by
    rintro e w' ⟨⟨s, rfl, hs⟩, hb⟩
    obtain rfl : s = ⟨(txt f 0 n).toArray⟩ := ByteArray.ext (Array.toList_inj.mp (by rw [hs, HT.out]))
    exact ⟨rfl, hb⟩)
  generalize (⟨(txt f 0 n).toArray⟩ : ByteArray) = tx at *
  clear hS ht hv0 hv1 hn
  go_enter Tryd.func16, Tryd.ntmps16
  go_wp2_with (first
    | (go_at_call 11; refine k11.mono ?_; rintro e w2 ⟨⟨b, rfl, hb⟩, q, rfl⟩; clear k11; obtain rfl : b = true := hb.2 hC; clear hb)
    | fail)
  have HDQ : Hid (∀ q, Below w.heap.size w (w.drewN q)) := fun q => ⟨rfl, rfl, rfl, Nat.le_refl _, fun _ _ => rfl⟩
  have hcd : (convert 22 9 (.slice A n c)).run Tryd.prog (w.drewN (q + 1)) = .ok (.string tx) (w.drewN (q + 1)) := HCo.out _ (HDQ.out _)
  have hsb : (tx.toList == tx.toList) = true := by simp
  go_region_with (first
    | (go_at_call 12; refine (HI.out _).mono ?_; rintro e w3 ⟨rfl, hb3⟩; have hb03 : Below w.heap.size w w3 := Below.trans (HDQ.out _) hb3; have hcn3 := HCo.out _ hb03)
    | fail)
  · go_wp2
    go_ret
    exact ⟨rfl, hb03⟩
  · go_wp2
    go_ret
    exact ⟨rfl, hb03⟩

set_option maxRecDepth 100000 in
set_option maxHeartbeats 400000 in
theorem fixed_no (B : Nat) (A : Option Addr) (n c : Nat) (f : Nat → UInt8) (hC : ¬ Canon f n) (w : World) (hS : Byt B w A n f) :
    Calls Tryd.prog 16 #[.slice A n c, .int .i64 0, .bool false] w fun e w' => e = .returned (.bool true) ∧ Below w.heap.size w w' := by
  have k11 := canon_any B A n c f w hS
  have HDQ : Hid (∀ q, Below w.heap.size w (w.drewN q)) := fun q => ⟨rfl, rfl, rfl, Nat.le_refl _, fun _ _ => rfl⟩
  clear hS
  go_enter Tryd.func16, Tryd.ntmps16
  go_wp2_with (first
    | (go_at_call 11; refine k11.mono ?_; rintro e w2 ⟨⟨b, rfl, hb⟩, q, rfl⟩; clear k11; obtain rfl : b = false := Bool.eq_false_iff.2 (fun h => hC (hb.1 h)); clear hb)
    | fail)
  go_ret
  exact ⟨rfl, HDQ.out _⟩
end Go.Proofs.Qxb6628404aDoor
