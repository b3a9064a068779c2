/-
  Int (9).
-/
import Derived.Test.Qxb6628404aDoorInt
import Derived.Test.Qxb6628404aDoorShelf
import Derived.Lib.SlicesS
namespace Go.Proofs.Qxb6628404aDoor
open Go.RowKit Go.Lib

theorem gSyn : Tryd.prog.globalNamed "strconv.ErrSyntax" = some 0 := by kernel_rfl
theorem gRng : Tryd.prog.globalNamed "strconv.ErrRange" = some 1 := by kernel_rfl
/-- The two error variables hold something. -/
structure Errs (w : World) : Prop where
  syn : ∃ tp p, w.var? Tryd.prog "strconv.ErrSyntax" = some #[.iface tp p]
  rng : ∃ tp p, w.var? Tryd.prog "strconv.ErrRange" = some #[.iface tp p]
theorem var_below {B : Nat} {w w' : World} {n : String} {g : Nat} (hg : Tryd.prog.globalNamed n = some g) (hb : Below B w w') (hB : g < B) : w'.var? Tryd.prog n = w.var? Tryd.prog n := by
  unfold World.var?
  rw [hg]
  simp only [Option.bind_some]
  rw [hb.block g hB]
theorem Errs.below {B : Nat} {w w' : World} (h : Errs w) (hb : Below B w w') (hB : 2 ≤ B) : Errs w' := by
  obtain ⟨t1, p1, h1⟩ := h.syn
  obtain ⟨t2, p2, h2⟩ := h.rng
  exact ⟨⟨t1, p1, by rw [var_below gSyn hb (by omega)]; exact h1⟩, ⟨t2, p2, by rw [var_below gRng hb (by omega)]; exact h2⟩⟩

/-- ParseInt(s, 10, 64) at a text: its number and no error, or an error. -/
theorem parse_any (l : List UInt8) (hl : l.length ≤ 1048576) (w : World) (he : Errs w) :
    Calls Tryd.prog 20 #[.string ⟨l.toArray⟩, .int .i64 10, .int .i64 64] w fun e w' => Below w.heap.size w w' ∧ ((∃ v, parseIntB 64 l = .ok v ∧ e = .returned (.tuple #[.int .i64 v, .nilIface])) ∨ ((∀ v, parseIntB 64 l ≠ .ok v) ∧ ∃ z p, e = .returned (.tuple #[.int .i64 z, .iface 63 (.pointer (some p))]))) := by
  have hd : (⟨l.toArray⟩ : ByteArray).data.toList = l := by simp
  have hsz : (⟨l.toArray⟩ : ByteArray).size = l.length := by simp [ByteArray.size]
  obtain ⟨t1, p1, h1⟩ := he.syn
  obtain ⟨t2, p2, h2⟩ := he.rng
  by_cases hp : ∃ v, parseIntB 64 l = .ok v
  · obtain ⟨v, hp⟩ := hp
    refine (Tryd.strconv_ParseInt_10_at64_ok ⟨l.toArray⟩ (by omega) v (by rw [hd]; exact hp) w).mono ?_
    rintro e w' ⟨rfl, hw⟩
    refine ⟨?_, .inl ⟨v, hp, rfl⟩⟩
    rcases hw with rfl | ⟨t, rfl⟩
    · exact Below.refl _ _
    · exact Lib.bytesWorld_below _ _ _
  · have hno : ∀ v, parseIntB 64 l ≠ .ok v := fun v h => hp ⟨v, h⟩
    refine (Tryd.parse_bad ⟨l.toArray⟩ (by omega) (by rw [hd]; exact hno) t1 p1 t2 p2 w h1 h2).mono ?_
    rintro e w' ⟨⟨z, N, rfl⟩, hb⟩
    exact ⟨hb, .inr ⟨hno, _, _, rfl⟩⟩

theorem mz_list : ([45, 48] : List UInt8) = ByteArray.toList ⟨#[45, 48]⟩ := by rw [ByteArray.toList_eq]
theorem minus_text {f : Nat → UInt8} {n : Nat} : MinusZero f n ↔ (⟨(txt f 0 n).toArray⟩ : ByteArray) = ⟨#[45, 48]⟩ := by
  constructor
  · rintro ⟨rfl, h1, h2⟩
    simp [txt, List.range_succ, h1, h2]
  · intro h
    have h' : txt f 0 n = [45, 48] := by simpa using congrArg (fun b : ByteArray => b.data.toList) h
    have hn : n = 2 := by have := txt_length f 0 n; rw [h'] at this; simpa using this.symm
    subst hn
    simp [txt, List.range_succ] at h'
    exact ⟨rfl, h'.1, h'.2⟩

/-- What Int answers at a number's text. -/
structure IntAns (f : Nat → UInt8) (n : Nat) (r : Ending) : Prop where
  ex : (∃ v, Canon f n ∧ parseIntB 64 (txt f 0 n) = .ok v ∧ r = .returned (.tuple #[.int .i64 v, .nilIface])) ∨ (¬ Canon f n ∧ ∃ t p, r = .returned (.tuple #[.int .i64 0, .iface t (.pointer (some p))]))

set_option maxRecDepth 100000 in
set_option maxHeartbeats 400000 in
theorem int_num (B d : Nat) (A : Option Addr) (n c : Nat) (N : Nat) (K : Nat → UInt8) (S E X : Nat → Int) (i s e : Nat) (hi : i < N) (hK : K i = 4) (hs : S i = (s : Int)) (he : E i = (e : Int)) (hse : s < e) (hec : e ≤ c) (A' : Option Addr) (Le : Nat) (hA' : A' = if e = s then A else A.map (·.add s)) (hLe : Le = e - s) (hLl : Le ≤ 1048576) (f : Nat → UInt8) (hF : Num f Le) (w : World) (hB : B ≤ w.heap.size) (h2 : 2 ≤ w.heap.size) (hE : Errs w) (hD : Doc B w d (.slice A n c) N K S E X) (hS : Byt B w A' Le f) :
    Calls Tryd.prog 9 #[.agg #[.pointer (some ⟨d, 0, none⟩), .int .i32 (i : Int)]] w fun r w' => IntAns f Le r ∧ Below w.heap.size w w' := by
  have hb1 : Below w.heap.size w (w.alloc (.cells #[.pointer (some ⟨d, 0, none⟩), .int .i32 (i : Int)] 28)) := (Below.refl _ w).alloc (Nat.le_refl _) _
  have k19 := integer_num B d A n c N K S E X i s e hi hK hs he hse hec A' Le hA' hLe f _ (Nat.le_trans hB hb1.size) (hD.below hb1 hB) (hS.below hb1 hB)
  have HP : Hid (∀ W, Below w.heap.size w W → Calls Tryd.prog 20 #[.string ⟨(txt f 0 Le).toArray⟩, .int .i64 10, .int .i64 64] W fun e w' => Below W.heap.size W w' ∧ ((∃ v, parseIntB 64 (txt f 0 Le) = .ok v ∧ e = .returned (.tuple #[.int .i64 v, .nilIface])) ∨ ((∀ v, parseIntB 64 (txt f 0 Le) ≠ .ok v) ∧ ∃ z p, e = .returned (.tuple #[.int .i64 z, .iface 63 (.pointer (some p))])))) := fun W hb =>
    parse_any _ (by rw [txt_length]; exact hLl) W (hE.below hb h2)
  have HC : Hid (Canon f Le ↔ (∃ v, parseIntB 64 (txt f 0 Le) = .ok v) ∧ ¬ MinusZero f Le) := canon_iff hF
  have HMT : Hid (MinusZero f Le ↔ (⟨(txt f 0 Le).toArray⟩ : ByteArray) = ⟨#[45, 48]⟩) := minus_text
  generalize (⟨(txt f 0 Le).toArray⟩ : ByteArray) = s0 at *
  clear hA' hLe hs he hse hec hD hS hK hF hE
  go_enter Tryd.func9, Tryd.ntmps9
  go_wp2_with (first
    | (go_at_call 19; refine k19.mono ?_; rintro r w2 ⟨rfl, hb2⟩; clear k19; have hb02 := hb1.trans (hb2.mono hb1.size))
    | (go_at_call 20; refine (HP.out _ hb02).mono ?_)
    | fail)
  rintro r w3 ⟨hb3, ⟨v, hv, rfl⟩ | ⟨hno, z, p, rfl⟩⟩
  · have hb03 := hb02.trans (hb3.mono hb02.size)
    have HV : Hid (parseIntB 64 (txt f 0 Le) = .ok v) := hv
    clear hv
    by_cases hm : MinusZero f Le
    · have hbe : (s0.toList == [45, 48]) = true := by rw [mz_list]; exact (bytes_beq_iff _ _).2 (HMT.out.1 hm)
      have HM : Hid (MinusZero f Le) := hm
      clear hm
      go_wp2
      go_ret2
      exact ⟨⟨.inr ⟨fun h => (HC.out.1 h).2 HM.out, _, _, rfl⟩⟩, hb03.alloc hb03.size _⟩
    · have hbe : (s0.toList == [45, 48]) = false := by rw [mz_list]; exact (bytes_beq_false_iff _ _).2 (fun h => hm (HMT.out.2 h))
      have HM : Hid (¬ MinusZero f Le) := hm
      clear hm
      go_wp2
      go_ret2
      exact ⟨⟨.inl ⟨v, HC.out.2 ⟨⟨v, HV.out⟩, HM.out⟩, HV.out, rfl⟩⟩, hb03⟩
  · have hb03 := hb02.trans (hb3.mono hb02.size)
    have HN : Hid (∀ v, parseIntB 64 (txt f 0 Le) ≠ .ok v) := hno
    clear hno
    go_wp2
    go_ret2
    exact ⟨⟨.inr ⟨fun h => by obtain ⟨v, hv⟩ := (HC.out.1 h).1; exact HN.out v hv, _, _, rfl⟩⟩, hb03.alloc hb03.size _⟩
end Go.Proofs.Qxb6628404aDoor
