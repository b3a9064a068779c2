/-
  THE LEAVES: zzIsDigit (23), zzIsJSONNumber (14), the byte bounds (5, 13).
-/
import Derived.Test.Qxb6628404aDoorRows
import Derived.Test.Qxb6628404aDoorPlain
import Derived.WalkKit
import Derived.Below
import Derived.BigQuiet
import Derived.Deep.CutRange
import Derived.Deep.DeepCutAuto
namespace Go.Proofs.Qxb6628404aDoor
open Go.RowKit Go.Lib

/-- A slice of n bytes lies at A, below block B: byte j is f j. -/
structure Byt (B : Nat) (w : World) (A : Option Addr) (n : Nat) (f : Nat → UInt8) : Prop where
  cells : ∀ j, j < n → ∃ b o, A = some ⟨b, o, none⟩ ∧ b < B ∧ w.cell? ⟨b, o + j, none⟩ = some (.int .u8 ((f j).toNat : Int))
  len : n ≤ 9223372036854775807
theorem Byt.below {B B' : Nat} {w w' : World} {A : Option Addr} {n : Nat} {f : Nat → UInt8} (h : Byt B w A n f) (hb : Below B' w w') (hB : B ≤ B') : Byt B w' A n f :=
  ⟨fun j hj => by
    obtain ⟨b, o, h1, h2, h3⟩ := h.cells j hj
    exact ⟨b, o, h1, h2, by rw [hb.cell (show b < B' by omega)]; exact h3⟩, h.len⟩
theorem Byt.mono {B B' : Nat} {w : World} {A : Option Addr} {n : Nat} {f : Nat → UInt8} (h : Byt B w A n f) (hB : B ≤ B') : Byt B' w A n f :=
  ⟨fun j hj => by
    obtain ⟨b, o, h1, h2, h3⟩ := h.cells j hj
    exact ⟨b, o, h1, by omega, h3⟩, h.len⟩
theorem Byt.congr {B : Nat} {w : World} {A : Option Addr} {n : Nat} {f g : Nat → UInt8} (h : Byt B w A n f) (hfg : ∀ j, j < n → f j = g j) : Byt B w A n g :=
  ⟨fun j hj => by rw [← hfg j hj]; exact h.cells j hj, h.len⟩

structure Only (e : Ending) (p : Prop) : Prop where
  ex : ∃ b : Bool, e = .returned (.bool b) ∧ (b = true → p)
structure Says (e : Ending) (p : Prop) : Prop where
  ex : ∃ b : Bool, e = .returned (.bool b) ∧ (b = true ↔ p)
theorem Says.yes {p : Prop} (h : p) : Says (.returned (.bool true)) p := ⟨true, rfl, by simp [h]⟩
theorem Says.no {p : Prop} (h : ¬ p) : Says (.returned (.bool false)) p := ⟨false, rfl, by simp [h]⟩

theorem u8lt (c : UInt8) : (c.toNat : Int) < 256 := by have := c.toNat_lt; omega

theorem isDigit_any (c : UInt8) (w : World) : Calls Tryd.prog 23 #[.int .u8 (c.toNat : Int)] w fun e w' => Says e (Dig c) ∧ w' = w := by
  have hc := u8lt c
  by_cases h1 : 48 ≤ c.toNat
  · by_cases h2 : c.toNat ≤ 57
    · have e1 : (48 : Int) ≤ (c.toNat : Int) := by omega
      have e2 : (c.toNat : Int) ≤ 57 := by omega
      go_enter Tryd.func23, Tryd.ntmps23
      go_wp2
      go_ret
      exact ⟨Says.yes ⟨h1, h2⟩, rfl⟩
    · have e1 : (48 : Int) ≤ (c.toNat : Int) := by omega
      have e2 : ¬ (c.toNat : Int) ≤ 57 := by omega
      go_enter Tryd.func23, Tryd.ntmps23
      go_wp2
      go_ret
      exact ⟨Says.no (fun h => h2 h.2), rfl⟩
  · have e1 : ¬ (48 : Int) ≤ (c.toNat : Int) := by omega
    go_enter Tryd.func23, Tryd.ntmps23
    go_wp2
    go_ret
    exact ⟨Says.no (fun h => h1 h.1), rfl⟩

theorem bytes5_any (A : Option Addr) (n c : Nat) (w : World) (hn : n ≤ 9223372036854775807) : Calls Tryd.prog 5 #[.slice A n c] w fun e w' => Only e (n ≤ 1048576) ∧ w' = w := by
  go_enter Tryd.func5, Tryd.ntmps5
  go_wp2
  · go_ret
    exact ⟨⟨false, rfl, fun h => by cases h⟩, rfl⟩
  · go_ret
    exact ⟨⟨true, rfl, fun _ => by omega⟩, rfl⟩
theorem bytes13_any (A : Option Addr) (n c : Nat) (A2 : Option Addr) (m c2 : Nat) (w : World) (hn : n ≤ 9223372036854775807) (hm : m ≤ 9223372036854775807) : Calls Tryd.prog 13 #[.slice A n c, .slice A2 m c2] w fun e w' => Only e (n + m ≤ 1048576) ∧ w' = w := by
  go_enter Tryd.func13, Tryd.ntmps13
  go_wp2
  · go_ret
    exact ⟨⟨false, rfl, fun h => by cases h⟩, rfl⟩
  · go_ret
    exact ⟨⟨false, rfl, fun h => by cases h⟩, rfl⟩
  · go_ret
    exact ⟨⟨false, rfl, fun h => by cases h⟩, rfl⟩
  · go_ret
    exact ⟨⟨true, rfl, fun _ => by omega⟩, rfl⟩
end Go.Proofs.Qxb6628404aDoor
