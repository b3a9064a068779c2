/-
  DERIVED: THE SHELF's CONTRACTS AT THIS DUMP, IN PLAIN WORDS (tools/lay-plain.mjs out of 'the shelf text.lean', which tools/lay-shelf.mjs wrote): THE SAME DECLARATIONS UNDER THE SAME NAMES: 'import', 'namespace', 'open', 'def', 'theorem' AND NOTHING ELSE: no command of the shelf's: FOR A HAND-IN. Each laying: the table of numbers ('.._ren') and one theorem, a field a fact of the dump's own or the kernel's comparison; each contract: ONE APPLICATION.
-/
import Derived.Shelf.Sort.Plain
import Derived.Shelf.Slices.In.SortNone
import Derived.Shelf.Slices.In.SortNone2
import Derived.Test.Qxb6628248aFmtProg
namespace Go.Proofs
open Go.Shelf
def Tryf.lays189_ren : Go.Shelf.Ren := ⟨fun | 189 => 17 | 125 => 19 | 257 => 18 | 128 => 29 | 129 => 30 | 294 => 20 | 295 => 21 | 296 => 22 | 297 => 23 | 298 => 24 | 299 => 25 | 216 => 26 | 300 => 27 | 301 => 28 | 328 => 31 | 329 => 32 | 330 => 33 | 331 => 34 | 332 => 35 | 215 => 36 | 343 => 37 | n => n, fun | 28 => 41 | 3 => 3 | 46 => 45 | 0 => 0 | 51 => 66 | 53 => 68 | 4 => 4 | 183 => 58 | 182 => 57 | 131 => 63 | 5 => 5 | 9 => 9 | 218 => 69 | 222 => 73 | 228 => 76 | 229 => 77 | n => n, fun | n => n⟩
theorem Tryf.lays189 : Go.Proofs.Lays.n189 Tryf.prog Tryf.lays189_ren := {
  mixed := by kernel_rfl
  f125 := Tryf.func19.trans (congrArg some (by kernel_rfl))
  f128 := Tryf.func29.trans (congrArg some (by kernel_rfl))
  f129 := Tryf.func30.trans (congrArg some (by kernel_rfl))
  f189 := Tryf.func17.trans (congrArg some (by kernel_rfl))
  f215 := Tryf.func36.trans (congrArg some (by kernel_rfl))
  f216 := Tryf.func26.trans (congrArg some (by kernel_rfl))
  f257 := Tryf.func18.trans (congrArg some (by kernel_rfl))
  f294 := Tryf.func20.trans (congrArg some (by kernel_rfl))
  f295 := Tryf.func21.trans (congrArg some (by kernel_rfl))
  f296 := Tryf.func22.trans (congrArg some (by kernel_rfl))
  f297 := Tryf.func23.trans (congrArg some (by kernel_rfl))
  f298 := Tryf.func24.trans (congrArg some (by kernel_rfl))
  f299 := Tryf.func25.trans (congrArg some (by kernel_rfl))
  f300 := Tryf.func27.trans (congrArg some (by kernel_rfl))
  f301 := Tryf.func28.trans (congrArg some (by kernel_rfl))
  f328 := Tryf.func31.trans (congrArg some (by kernel_rfl))
  f329 := Tryf.func32.trans (congrArg some (by kernel_rfl))
  f330 := Tryf.func33.trans (congrArg some (by kernel_rfl))
  f331 := Tryf.func34.trans (congrArg some (by kernel_rfl))
  f332 := Tryf.func35.trans (congrArg some (by kernel_rfl))
  f343 := Tryf.func37.trans (congrArg some (by kernel_rfl))
  t0 := Tryf.underlying0
  a0 := Tryf.isAgg0
  z0 := Tryf.sizeOf0
  v0 := Tryf.zeroValue0
  t3 := Tryf.underlying3
  a3 := Tryf.isAgg3
  z3 := Tryf.sizeOf3
  v3 := Tryf.zeroValue3
  t4 := Tryf.underlying4
  a4 := Tryf.isAgg4
  z4 := Tryf.sizeOf4
  v4 := Tryf.zeroValue4
  t5 := Tryf.underlying5
  a5 := Tryf.isAgg5
  z5 := Tryf.sizeOf5
  v5 := Tryf.zeroValue5
  t9 := Tryf.underlying9
  a9 := Tryf.isAgg9
  z9 := Tryf.sizeOf9
  v9 := Tryf.zeroValue9
  t28 := Tryf.underlying41
  a28 := Tryf.isAgg41
  z28 := Tryf.sizeOf41
  v28 := Tryf.zeroValue41
  t46 := Tryf.underlying45
  a46 := Tryf.isAgg45
  z46 := Tryf.sizeOf45
  v46 := Tryf.zeroValue45
  t51 := Tryf.underlying66
  a51 := Tryf.isAgg66
  z51 := Tryf.sizeOf66
  v51 := Tryf.zeroValue66
  t53 := Tryf.underlying68
  a53 := Tryf.isAgg68
  z53 := Tryf.sizeOf68
  v53 := Tryf.zeroValue68
  t131 := Tryf.underlying63
  a131 := Tryf.isAgg63
  z131 := Tryf.sizeOf63
  v131 := Tryf.zeroValue63
  t182 := Tryf.underlying57
  a182 := Tryf.isAgg57
  z182 := Tryf.sizeOf57
  v182 := Tryf.zeroValue57
  t183 := Tryf.underlying58
  a183 := Tryf.isAgg58
  z183 := Tryf.sizeOf58
  v183 := Tryf.zeroValue58
  t218 := Tryf.underlying69
  a218 := Tryf.isAgg69
  z218 := Tryf.sizeOf69
  v218 := Tryf.zeroValue69
  t222 := Tryf.underlying73
  a222 := Tryf.isAgg73
  z222 := Tryf.sizeOf73
  v222 := Tryf.zeroValue73
  t228 := Tryf.underlying76
  a228 := Tryf.isAgg76
  z228 := Tryf.sizeOf76
  v228 := Tryf.zeroValue76
  t229 := Tryf.underlying77
  a229 := Tryf.isAgg77
  z229 := Tryf.sizeOf77
  v229 := Tryf.zeroValue77 }
open Go.Sort Go.RowKit in
theorem Tryf.slices_Sort_int (blk off cap : Nat) (zs : List Int) (w : World) (hH : Holds (Value.int .i64) w blk off zs.toArray) (hblk : blk < w.heap.size) (hsz : zs.length < 4611686018427387904) :
    Calls Tryf.prog 17 #[.slice (some ⟨blk, off, none⟩) zs.length cap] w fun e w' =>
      e = .returned (.tuple #[]) ∧ ∃ n os, w' = grow (putRow (Value.int .i64) (Sort.ahead w n) blk off (zs.mergeSort fun x y => decide (x ≤ y)).toArray) os := Any.slices_Sort_int Tryf.lays189 blk off cap zs w hH hblk hsz
def Tryf.lays191_ren : Go.Shelf.Ren := ⟨fun | 191 => 15 | 189 => 17 | 125 => 19 | 257 => 18 | 128 => 29 | 129 => 30 | 294 => 20 | 295 => 21 | 296 => 22 | 297 => 23 | 298 => 24 | 299 => 25 | 216 => 26 | 300 => 27 | 301 => 28 | 328 => 31 | 329 => 32 | 330 => 33 | 331 => 34 | 332 => 35 | 215 => 36 | 343 => 37 | n => n, fun | 28 => 41 | 0 => 0 | 3 => 3 | 46 => 45 | 51 => 66 | 53 => 68 | 4 => 4 | 183 => 58 | 182 => 57 | 131 => 63 | 5 => 5 | 9 => 9 | 218 => 69 | 222 => 73 | 228 => 76 | 229 => 77 | n => n, fun | n => n⟩
theorem Tryf.lays191 : Go.Proofs.Lays.n191 Tryf.prog Tryf.lays191_ren := {
  mixed := by kernel_rfl
  f125 := Tryf.func19.trans (congrArg some (by kernel_rfl))
  f128 := Tryf.func29.trans (congrArg some (by kernel_rfl))
  f129 := Tryf.func30.trans (congrArg some (by kernel_rfl))
  f189 := Tryf.func17.trans (congrArg some (by kernel_rfl))
  f191 := Tryf.func15.trans (congrArg some (by kernel_rfl))
  f215 := Tryf.func36.trans (congrArg some (by kernel_rfl))
  f216 := Tryf.func26.trans (congrArg some (by kernel_rfl))
  f257 := Tryf.func18.trans (congrArg some (by kernel_rfl))
  f294 := Tryf.func20.trans (congrArg some (by kernel_rfl))
  f295 := Tryf.func21.trans (congrArg some (by kernel_rfl))
  f296 := Tryf.func22.trans (congrArg some (by kernel_rfl))
  f297 := Tryf.func23.trans (congrArg some (by kernel_rfl))
  f298 := Tryf.func24.trans (congrArg some (by kernel_rfl))
  f299 := Tryf.func25.trans (congrArg some (by kernel_rfl))
  f300 := Tryf.func27.trans (congrArg some (by kernel_rfl))
  f301 := Tryf.func28.trans (congrArg some (by kernel_rfl))
  f328 := Tryf.func31.trans (congrArg some (by kernel_rfl))
  f329 := Tryf.func32.trans (congrArg some (by kernel_rfl))
  f330 := Tryf.func33.trans (congrArg some (by kernel_rfl))
  f331 := Tryf.func34.trans (congrArg some (by kernel_rfl))
  f332 := Tryf.func35.trans (congrArg some (by kernel_rfl))
  f343 := Tryf.func37.trans (congrArg some (by kernel_rfl))
  t0 := Tryf.underlying0
  a0 := Tryf.isAgg0
  z0 := Tryf.sizeOf0
  v0 := Tryf.zeroValue0
  t3 := Tryf.underlying3
  a3 := Tryf.isAgg3
  z3 := Tryf.sizeOf3
  v3 := Tryf.zeroValue3
  t4 := Tryf.underlying4
  a4 := Tryf.isAgg4
  z4 := Tryf.sizeOf4
  v4 := Tryf.zeroValue4
  t5 := Tryf.underlying5
  a5 := Tryf.isAgg5
  z5 := Tryf.sizeOf5
  v5 := Tryf.zeroValue5
  t9 := Tryf.underlying9
  a9 := Tryf.isAgg9
  z9 := Tryf.sizeOf9
  v9 := Tryf.zeroValue9
  t28 := Tryf.underlying41
  a28 := Tryf.isAgg41
  z28 := Tryf.sizeOf41
  v28 := Tryf.zeroValue41
  t46 := Tryf.underlying45
  a46 := Tryf.isAgg45
  z46 := Tryf.sizeOf45
  v46 := Tryf.zeroValue45
  t51 := Tryf.underlying66
  a51 := Tryf.isAgg66
  z51 := Tryf.sizeOf66
  v51 := Tryf.zeroValue66
  t53 := Tryf.underlying68
  a53 := Tryf.isAgg68
  z53 := Tryf.sizeOf68
  v53 := Tryf.zeroValue68
  t131 := Tryf.underlying63
  a131 := Tryf.isAgg63
  z131 := Tryf.sizeOf63
  v131 := Tryf.zeroValue63
  t182 := Tryf.underlying57
  a182 := Tryf.isAgg57
  z182 := Tryf.sizeOf57
  v182 := Tryf.zeroValue57
  t183 := Tryf.underlying58
  a183 := Tryf.isAgg58
  z183 := Tryf.sizeOf58
  v183 := Tryf.zeroValue58
  t218 := Tryf.underlying69
  a218 := Tryf.isAgg69
  z218 := Tryf.sizeOf69
  v218 := Tryf.zeroValue69
  t222 := Tryf.underlying73
  a222 := Tryf.isAgg73
  z222 := Tryf.sizeOf73
  v222 := Tryf.zeroValue73
  t228 := Tryf.underlying76
  a228 := Tryf.isAgg76
  z228 := Tryf.sizeOf76
  v228 := Tryf.zeroValue76
  t229 := Tryf.underlying77
  a229 := Tryf.isAgg77
  z229 := Tryf.sizeOf77
  v229 := Tryf.zeroValue77 }
open Go.Sort Go.RowKit in
theorem Tryf.sort_Ints (blk off cap : Nat) (zs : List Int) (w : World) (hH : Holds (Value.int .i64) w blk off zs.toArray) (hblk : blk < w.heap.size) (hsz : zs.length < 4611686018427387904) :
    Calls Tryf.prog 15 #[.slice (some ⟨blk, off, none⟩) zs.length cap] w fun e w' =>
      e = .returned (.tuple #[]) ∧ ∃ n os, w' = grow (putRow (Value.int .i64) (Sort.ahead w n) blk off (zs.mergeSort fun x y => decide (x ≤ y)).toArray) os := Any.sort_Ints Tryf.lays191 blk off cap zs w hH hblk hsz
open Go.RowKit Go.Sort in
/-- .. and plain. (LAID: no walk: one application.) -/
theorem Tryf.slices_Sort_int_none (p : Option Addr) (cap : Nat) (w : World) :
    Calls Tryf.prog 17 #[.slice p 0 cap] w fun e w' => e = .returned (.tuple #[]) ∧ w' = w := Any.slices_Sort_int_none Tryf.lays189 p cap w
open Go.RowKit Go.Sort in
/-- .. and plain. (LAID: no walk: one application.) -/
theorem Tryf.sort_Ints_none (p : Option Addr) (cap : Nat) (w : World) :
    Calls Tryf.prog 15 #[.slice p 0 cap] w fun e w' => e = .returned (.tuple #[]) ∧ w' = w := Any.sort_Ints_none Tryf.lays191 p cap w
end Go.Proofs
