/-
  DERIVED: THE SHELF's CONTRACTS AT THIS DUMP, IN PLAIN WORDS (tools/lay-plain.mjs out of 'TrydShelf.lean', which tools/lay-shelf.mjs wrote): THE SAME DECLARATIONS UNDER THE SAME NAMES: 'import', 'namespace', 'open', 'def', 'theorem' AND NOTHING ELSE: no command of the shelf's: FOR A HAND-IN. Each laying: the table of numbers ('.._ren') and one theorem, a field a fact of the dump's own or the kernel's comparison; each contract: ONE APPLICATION.
-/
import Derived.Shelf.LaysM
import Derived.Shelf.LaysC
import Derived.Shelf.Strconv.ParseIntPublic10
import Derived.Shelf.Strconv.ErrVarParseInt
import Derived.Test.Qxb6628404aDoorProg
namespace Go.Proofs
open Go.Shelf
def Tryd.laysC174_ren : Go.Shelf.Ren := ⟨fun | 174 => 20 | 247 => 25 | 245 => 26 | 287 => 27 | 279 => 28 | 280 => 29 | 281 => 30 | 282 => 31 | 321 => 32 | 322 => 33 | 316 => 34 | 171 => 35 | 205 => 21 | 243 => 36 | 246 => 37 | 283 => 38 | 284 => 39 | 285 => 40 | 286 => 41 | 129 => 43 | 317 => 42 | 318 => 44 | 319 => 45 | 320 => 46 | 337 => 47 | 338 => 48 | n => n, fun | 9 => 9 | 3 => 3 | 2 => 2 | 75 => 31 | 85 => 32 | 4 => 4 | 167 => 59 | 5 => 5 | 53 => 52 | 175 => 60 | 46 => 62 | 168 => 63 | 37 => 22 | 0 => 0 | 210 => 70 | 21 => 21 | 127 => 72 | 145 => 58 | 143 => 56 | 171 => 74 | 173 => 77 | 212 => 81 | 51 => 82 | 20 => 20 | 213 => 83 | 232 => 87 | 233 => 88 | 80 => 91 | n => n, fun | 15 => 0 | 16 => 1 | 17 => 2 | 18 => 3 | 19 => 4 | n => n⟩
theorem Tryd.laysC174 : Go.Proofs.LaysC.n174 Tryd.prog Tryd.laysC174_ren := {
  mixed := by kernel_rfl
  f129 := Tryd.func43.trans (congrArg some (by kernel_rfl))
  f171 := Tryd.func35.trans (congrArg some (by kernel_rfl))
  f174 := Tryd.func20.trans (congrArg some (by kernel_rfl))
  f205 := Tryd.func21.trans (congrArg some (by kernel_rfl))
  f243 := Tryd.func36.trans (congrArg some (by kernel_rfl))
  f245 := Tryd.func26.trans (congrArg some (by kernel_rfl))
  f246 := Tryd.func37.trans (congrArg some (by kernel_rfl))
  f247 := Tryd.func25.trans (congrArg some (by kernel_rfl))
  f279 := Tryd.func28.trans (congrArg some (by kernel_rfl))
  f280 := Tryd.func29.trans (congrArg some (by kernel_rfl))
  f281 := Tryd.func30.trans (congrArg some (by kernel_rfl))
  f282 := Tryd.func31.trans (congrArg some (by kernel_rfl))
  f283 := Tryd.func38.trans (congrArg some (by kernel_rfl))
  f284 := Tryd.func39.trans (congrArg some (by kernel_rfl))
  f285 := Tryd.func40.trans (congrArg some (by kernel_rfl))
  f286 := Tryd.func41.trans (congrArg some (by kernel_rfl))
  f287 := Tryd.func27.trans (congrArg some (by kernel_rfl))
  f316 := Tryd.func34.trans (congrArg some (by kernel_rfl))
  f317 := Tryd.func42.trans (congrArg some (by kernel_rfl))
  f318 := Tryd.func44.trans (congrArg some (by kernel_rfl))
  f319 := Tryd.func45.trans (congrArg some (by kernel_rfl))
  f320 := Tryd.func46.trans (congrArg some (by kernel_rfl))
  f321 := Tryd.func32.trans (congrArg some (by kernel_rfl))
  f322 := Tryd.func33.trans (congrArg some (by kernel_rfl))
  f337 := Tryd.func47.trans (congrArg some (by kernel_rfl))
  f338 := Tryd.func48.trans (congrArg some (by kernel_rfl))
  t0 := Tryd.underlying0
  a0 := Tryd.isAgg0
  z0 := Tryd.sizeOf0
  v0 := Tryd.zeroValue0
  t2 := Tryd.underlying2
  a2 := Tryd.isAgg2
  z2 := Tryd.sizeOf2
  v2 := Tryd.zeroValue2
  t3 := Tryd.underlying3
  a3 := Tryd.isAgg3
  z3 := Tryd.sizeOf3
  v3 := Tryd.zeroValue3
  t4 := Tryd.underlying4
  a4 := Tryd.isAgg4
  z4 := Tryd.sizeOf4
  v4 := Tryd.zeroValue4
  t5 := Tryd.underlying5
  a5 := Tryd.isAgg5
  z5 := Tryd.sizeOf5
  v5 := Tryd.zeroValue5
  t9 := Tryd.underlying9
  a9 := Tryd.isAgg9
  z9 := Tryd.sizeOf9
  v9 := Tryd.zeroValue9
  t20 := Tryd.underlying20
  a20 := Tryd.isAgg20
  z20 := Tryd.sizeOf20
  v20 := Tryd.zeroValue20
  t21 := Tryd.underlying21
  a21 := Tryd.isAgg21
  z21 := Tryd.sizeOf21
  v21 := Tryd.zeroValue21
  t37 := Tryd.underlying22
  a37 := Tryd.isAgg22
  z37 := Tryd.sizeOf22
  v37 := Tryd.zeroValue22
  t46 := Tryd.underlying62
  a46 := Tryd.isAgg62
  z46 := Tryd.sizeOf62
  v46 := Tryd.zeroValue62
  t51 := Tryd.underlying82
  a51 := Tryd.isAgg82
  z51 := Tryd.sizeOf82
  v51 := Tryd.zeroValue82
  t53 := Tryd.underlying52
  a53 := Tryd.isAgg52
  z53 := Tryd.sizeOf52
  v53 := Tryd.zeroValue52
  t75 := Tryd.underlying31
  a75 := Tryd.isAgg31
  z75 := Tryd.sizeOf31
  v75 := Tryd.zeroValue31
  t85 := Tryd.underlying32
  a85 := Tryd.isAgg32
  z85 := Tryd.sizeOf32
  v85 := Tryd.zeroValue32
  t127 := Tryd.underlying72
  a127 := Tryd.isAgg72
  z127 := Tryd.sizeOf72
  v127 := Tryd.zeroValue72
  t143 := Tryd.underlying56
  a143 := Tryd.isAgg56
  z143 := Tryd.sizeOf56
  v143 := Tryd.zeroValue56
  t145 := Tryd.underlying58
  a145 := Tryd.isAgg58
  z145 := Tryd.sizeOf58
  v145 := Tryd.zeroValue58
  t167 := Tryd.underlying59
  a167 := Tryd.isAgg59
  z167 := Tryd.sizeOf59
  v167 := Tryd.zeroValue59
  t168 := Tryd.underlying63
  a168 := Tryd.isAgg63
  z168 := Tryd.sizeOf63
  v168 := Tryd.zeroValue63
  t171 := Tryd.underlying74
  a171 := Tryd.isAgg74
  z171 := Tryd.sizeOf74
  v171 := Tryd.zeroValue74
  t173 := Tryd.underlying77
  a173 := Tryd.isAgg77
  z173 := Tryd.sizeOf77
  v173 := Tryd.zeroValue77
  t175 := Tryd.underlying60
  a175 := Tryd.isAgg60
  z175 := Tryd.sizeOf60
  v175 := Tryd.zeroValue60
  t210 := Tryd.underlying70
  a210 := Tryd.isAgg70
  z210 := Tryd.sizeOf70
  v210 := Tryd.zeroValue70
  t212 := Tryd.underlying81
  a212 := Tryd.isAgg81
  z212 := Tryd.sizeOf81
  v212 := Tryd.zeroValue81
  t213 := Tryd.underlying83
  a213 := Tryd.isAgg83
  z213 := Tryd.sizeOf83
  t232 := Tryd.underlying87
  a232 := Tryd.isAgg87
  z232 := Tryd.sizeOf87
  v232 := Tryd.zeroValue87
  t233 := Tryd.underlying88
  a233 := Tryd.isAgg88
  z233 := Tryd.sizeOf88
  v233 := Tryd.zeroValue88
  g15 := by kernel_rfl
  g16 := by kernel_rfl
  g17 := by kernel_rfl
  g18 := by kernel_rfl
  g19 := by kernel_rfl
  t80 := Tryd.underlying91
  a80 := Tryd.isAgg91
  z80 := Tryd.sizeOf91
  v80 := Tryd.zeroValue91
  i0 := by kernel_rfl
  i2 := by kernel_rfl
  i3 := by kernel_rfl
  i4 := by kernel_rfl
  i5 := by kernel_rfl
  i9 := by kernel_rfl
  i20 := by kernel_rfl
  i21 := by kernel_rfl
  i37 := by kernel_rfl
  i46 := by kernel_rfl
  i51 := by kernel_rfl
  i53 := by kernel_rfl
  i75 := by kernel_rfl
  i80 := by kernel_rfl
  i85 := by kernel_rfl
  i127 := by kernel_rfl
  i143 := by kernel_rfl
  i145 := by kernel_rfl
  i167 := by kernel_rfl
  i168 := by kernel_rfl
  i171 := by kernel_rfl
  i173 := by kernel_rfl
  i175 := by kernel_rfl
  i210 := by kernel_rfl
  i212 := by kernel_rfl
  i232 := by kernel_rfl
  i233 := by kernel_rfl
  m15 := by kernel_rfl
  m16 := by kernel_rfl
  m17 := by kernel_rfl
  m18 := by kernel_rfl
  m19 := by kernel_rfl
  c0 := by kernel_rfl
  c2 := by kernel_rfl
  c3 := by kernel_rfl
  c4 := by kernel_rfl
  c5 := by kernel_rfl
  c9 := by kernel_rfl
  c20 := by kernel_rfl
  c21 := by kernel_rfl
  c37 := by kernel_rfl
  c46 := by kernel_rfl
  c51 := by kernel_rfl
  c53 := by kernel_rfl
  c75 := by kernel_rfl
  c80 := by kernel_rfl
  c85 := by kernel_rfl
  c127 := by kernel_rfl
  c143 := by kernel_rfl
  c145 := by kernel_rfl
  c167 := by kernel_rfl
  c168 := by kernel_rfl
  c171 := by kernel_rfl
  c173 := by kernel_rfl
  c175 := by kernel_rfl
  c210 := by kernel_rfl
  c212 := by kernel_rfl
  c213 := by kernel_rfl
  c232 := by kernel_rfl
  c233 := by kernel_rfl }
open Go.RowKit in
/-- strconv.ParseInt(s, 10, 64), AT EVERY STRING THAT SPELLS AN int64 ('Lib.parseIntB 64 s.data.toList = .ok v'): v, AND NO ERROR. (LAID: no walk: one application.) -/
theorem Tryd.strconv_ParseInt_10_at64_ok (s : ByteArray) (hmax : s.size ≤ 9223372036854775806) (v : Int) (h : Lib.parseIntB 64 s.data.toList = .ok v) (w : World) :
    Calls Tryd.prog 20 #[.string s, .int .i64 10, .int .i64 64] w fun e w' => e = .returned (.tuple #[.int .i64 v, .nilIface]) ∧ (w' = w ∨ ∃ t, w' = Lib.bytesWorld w 5 t) := Any.strconv_ParseInt_10_at64_ok Tryd.laysC174 s hmax v h w
open Go.RowKit in
/-- strconv.ParseInt(s, 10, 64) at every string that spells no int64: an error that is not nil. -/
theorem Tryd.parse_bad (s : ByteArray) (hlim : s.size ≤ 281474976710656) (h : ∀ v, Lib.parseIntB 64 s.data.toList ≠ .ok v) (tp : TypeId) (p : Value) (tp2 : TypeId) (p2 : Value) (w : World) (hv : w.var? Tryd.prog "strconv.ErrSyntax" = some #[.iface tp p]) (hv2 : w.var? Tryd.prog "strconv.ErrRange" = some #[.iface tp2 p2]) :
    Calls Tryd.prog 20 #[.string s, .int .i64 10, .int .i64 64] w fun e w' => (∃ z N, e = .returned (.tuple #[.int .i64 z, .iface 63 (.pointer (some ⟨N, 0, none⟩))])) ∧ Below w.heap.size w w' := by
  rcases hp : Lib.parseIntB 64 s.data.toList with v | _ | _
  · exact absurd hp (h v)
  · refine Calls.mono (Any.strconv_ParseInt_10_at64_syntax_var Tryd.laysC174 s hlim hp tp p w hv) ?_
    rintro e w' ⟨N, rfl, _, _, hb⟩
    exact ⟨⟨_, N, rfl⟩, hb⟩
  · refine Calls.mono (Any.strconv_ParseInt_10_at64_range_var Tryd.laysC174 s hlim hp tp2 p2 w hv2) ?_
    rintro e w' ⟨N, rfl, _, _, hb⟩
    exact ⟨⟨_, N, rfl⟩, hb⟩
end Go.Proofs
