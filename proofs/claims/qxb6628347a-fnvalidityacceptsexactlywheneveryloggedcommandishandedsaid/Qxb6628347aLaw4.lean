/-
  THE LAW 'FnValidityAcceptsExactlyWhenEveryLoggedCommandIsHanded' (4), on slices that lie in memory.
-/
import Derived.Test.Qxb6628347aOwn
namespace Go.Proofs.Qxb6628347a
open Go.RowKit Go.Lib Go.Maps

theorem tot_le (L : Nat → Nat) {i m : Nat} (h : i ≤ m) : tot L i ≤ tot L m := by
  induction m with
  | zero => rw [Nat.le_zero.1 h]; exact Nat.le_refl _
  | succ k ih =>
    rcases Nat.lt_or_ge i (k + 1) with h' | h'
    · exact Nat.le_trans (ih (by omega)) (Nat.le_add_right _ _)
    · rw [show i = k + 1 by omega]; exact Nat.le_refl _

/-- The handed list so far: every entry that was passed lies in it. -/
structure HI (W wr : World) (A : Option Addr) (N c : Nat) (xs : List ByteArray) (n i j : Nat) (L : Nat → Nat) (T : Nat → Nat → ByteArray) : Prop where
  own : Own wr W.heap.size A N c xs
  len : N ≤ n + tot L i + j
  small : ∀ s ∈ xs, s.size ≤ maxLen
  done : ∀ i', i' < i → ∀ j', j' < L i' → T i' j' ∈ xs
  cur : ∀ j', j' < j → T i j' ∈ xs
  below : Below W.heap.size W wr

section
variable {W wr w' : World} {A A' : Option Addr} {N c c' : Nat} {xs : List ByteArray} {n i j : Nat} {L : Nat → Nat} {T : Nat → Nat → ByteArray}
theorem HI.skip (h : HI W wr A N c xs n i j L T) (hm : T i j ∈ xs) : HI W wr A N c xs n i (j + 1) L T :=
  ⟨h.own, by have := h.len; omega, h.small, h.done, fun j' hj' => by
    rcases Nat.lt_succ_iff_lt_or_eq.1 hj' with h' | h'
    · exact h.cur j' h'
    · subst h'; exact hm, h.below⟩
theorem HI.add (h : HI W wr A N c xs n i j L T) (hs : (T i j).size ≤ maxLen) (ho : Own w' W.heap.size A' (N + 1) c' (xs ++ [T i j])) (hb : Below W.heap.size wr w') : HI W w' A' (N + 1) c' (xs ++ [T i j]) n i (j + 1) L T :=
  ⟨ho, by have := h.len; omega, fun s hs' => by
    rcases List.mem_append.1 hs' with h' | h'
    · exact h.small s h'
    · simp at h'; subst h'; exact hs, fun i' hi' j' hj' => List.mem_append_left _ (h.done i' hi' j' hj'), fun j' hj' => by
    rcases Nat.lt_succ_iff_lt_or_eq.1 hj' with h' | h'
    · exact List.mem_append_left _ (h.cur j' h')
    · subst h'; simp, h.below.trans hb⟩
theorem HI.next (h : HI W wr A N c xs n i j L T) (hj : j = L i) : HI W wr A N c xs n (i + 1) 0 L T :=
  ⟨h.own, by have := h.len; simp [tot]; omega, h.small, fun i' hi' j' hj' => by
    rcases Nat.lt_succ_iff_lt_or_eq.1 hi' with h' | h'
    · exact h.done i' h' j' hj'
    · subst h'; exact h.cur j' (by omega), fun j' hj' => by omega, h.below⟩
end

/-- s is among the logged entries. -/
def Logged (m : Nat) (L : Nat → Nat) (T : Nat → Nat → ByteArray) (s : ByteArray) : Prop := ∃ i' j', i' < m ∧ j' < L i' ∧ T i' j' = s

set_option maxRecDepth 100000 in
set_option maxHeartbeats 1000000 in
theorem law4_any (A : Option Addr) (n c : Nat) (S : Nat → ByteArray) (A2 : Option Addr) (m c2 : Nat) (a : Nat → Option Addr) (L C : Nat → Nat) (T : Nat → Nat → ByteArray) (z : Int) (W : World) (hS : Strs W.heap.size W A n S) (hG : Grid W.heap.size W A2 m a L C T) :
    Calls Try.prog 4 #[.slice A n c, .slice A2 m c2, .int .i64 z] W fun e w' => e = .returned (.bool true) ∧ Below W.heap.size W w' := by
  have hml := hG.len
  have hnl := hS.len
  have k5 := bytes10_any W.heap.size A n c S A2 m c2 a L C T z W hS hG
  have k6 := sizeOK_any W.heap.size A n c S A2 m c2 a L C T W hS hG
  have HS : Hid (Strs W.heap.size W A n S) := hS
  have HG : Hid (Grid W.heap.size W A2 m a L C T) := hG
  clear hS hG
  obtain ⟨i9, hi9, hz9, hs9, hb9⟩ := info_parts info9
  go_enter Try.func4, Try.ntmps4
  go_wp2_with (first
    | (go_at_call 10; refine k5.mono ?_; rintro e w0 ⟨⟨b0, rfl, hb0⟩, hw0⟩; obtain rfl := hw0.symm; have HB0 : Hid (b0 = true → n + m + tot L m ≤ 1048576) := hb0; clear hb0 k5; cases b0)
    | (go_at_call 6; refine k6.mono ?_; rintro e w0 ⟨⟨b0, rfl, _⟩, hw0⟩; obtain rfl := hw0.symm; clear k6; cases b0)
    | fail)
  · go_ret
    exact ⟨rfl, Below.refl _ _⟩
  · go_ret
    exact ⟨rfl, Below.refl _ _⟩
  · have hbd := HB0.out trivial
    -- the number of logged entries
    go_loop [7, 8] (fun t q => ∃ i : Nat, i ≤ m ∧ q = .int .i64 i ∧ t = .int .i64 (tot L i : Int)) (fun _ q => m - (intOf q).toNat)
    case atStart => exact ⟨0, by omega, rfl, rfl⟩
    case round =>
      obtain ⟨i, hi, rfl, rfl⟩ := hrel
      by_cases hlt : i < m
      · obtain ⟨b, o, rfl, _, hc⟩ := HG.out.outer i hlt
        have hlt' : (i : Int) < (m : Int) := by omega
        have h1 := tot_le L (show i + 1 ≤ m by omega)
        have h2 : tot L (i + 1) = tot L i + L i := rfl
        have H2 : Hid (tot L (i + 1) = tot L i + L i) := h2
        have h3 : tot L i + L i ≤ 1048576 := by omega
        clear h1 h2
        go_wp2
        go_round
        case rel => exact ⟨i + 1, by omega, by go_num, by rw [H2.out]; go_num⟩
        case measure => simp [intOf]; omega
      · have him : m = i := by omega
        subst him
        go_wp2_with (first
          | (at_make; refine wpList_make_own _ rfl _ _ 22 rfl W.heap.size 9 i9 (.string ⟨#[]⟩) 1 Try.underlying22 hi9 hz9 hs9 _ _ _ (n + tot L m) rfl rfl (by omega) (by rw [hb9]; omega) (by unfold maxLen; omega) (Nat.le_refl _) ?_; intro w2 hrow2 hg2)
          | go_in)
        have hi0 : HI W w2 (some ⟨W.heap.size, 0, none⟩) 0 (n + tot L m) [] n 0 0 L T := ⟨own_made hrow2, by omega, (fun s hs => by cases hs), fun i' hi' => by omega, fun j' hj' => by omega, (Below.refl _ W).grown hg2 (Nat.le_refl _) (fun j hj => by cases hj)⟩
        clear hrow2 hg2
        -- the values
        go_loopw [9, 10] (fun v q wr => ∃ (i : Nat) (A3 : Option Addr) (c3 : Nat), i ≤ n ∧ q = .int .i64 i ∧ v = .slice A3 i c3 ∧ Hid (∃ xs, HI W wr A3 i c3 xs n 0 0 L T)) (fun _ q _ => n - (intOf q).toNat)
        case atStart => exact ⟨0, _, _, by omega, rfl, rfl, _, hi0⟩
        case round =>
          obtain ⟨i, A3, c3, hin, rfl, rfl, HX⟩ := hrel
          clear hi0
          by_cases hlt : i < n
          · obtain ⟨xs, hxs⟩ := HX.out
            obtain ⟨b, o, rfl, _, hc⟩ := (HS.out.below hxs.below (Nat.le_refl _)).cells i hlt
            have hlt' : (i : Int) < (n : Int) := by omega
            have HX2 : Hid (HI W wr A3 i c3 xs n 0 0 L T) := hxs
            clear hxs HX
            go_wp2_with (first
              | (at_builtin; refine app_one rfl _ _ rfl rfl rfl HX2.out.own (by omega) HX2.out.below.size ?_; intro A4 c4 w4 hown4 hb4; go_frame)
              | go_in)
            go_roundw
            case rel =>
              refine ⟨i + 1, A4, c4, by omega, by go_num, rfl, xs ++ [S i], ?_⟩
              exact ⟨hown4, by have := hown4.len; simp [tot]; omega, fun s hs => by
                rcases List.mem_append.1 hs with h' | h'
                · exact HX2.out.small s h'
                · simp at h'; subst h'; exact HS.out.small i hlt, fun i' hi' => by omega, fun j' hj' => by omega, HX2.out.below.trans hb4⟩
            case measure => simp [intOf]; omega
          · have hin' : n = i := by omega
            subst hin'
            have HX2 : Hid (∃ (N : Nat) (xs : List ByteArray), N = n ∧ HI W wr A3 N c3 xs n 0 0 L T) := by obtain ⟨xs, h⟩ := HX.out; exact ⟨n, xs, rfl, h⟩
            clear HX
            generalize wr = wo at *
            go_wp2
            -- the logged entries
            go_loopw [9, 11] (fun v q wr => ∃ (i N : Nat) (A3 : Option Addr) (c3 : Nat), i ≤ m ∧ q = .int .i64 i ∧ v = .slice A3 N c3 ∧ Hid (∃ xs, HI W wr A3 N c3 xs n i 0 L T)) (fun _ q _ => m - (intOf q).toNat)
            case atStart => obtain ⟨N, xs, rfl, h⟩ := HX2.out; exact ⟨0, _, _, _, by omega, rfl, rfl, xs, h⟩
            case round =>
              obtain ⟨i, N, A3, c3, him, rfl, rfl, HX⟩ := hrel
              clear HX2
              by_cases hlt : i < m
              · have hGI := HG.out.inner i hlt
                have hil := hGI.len
                have hlt' : (i : Int) < (m : Int) := by omega
                have hto := tot_le L (show i + 1 ≤ m by omega)
                have HTO : Hid (tot L i + L i ≤ tot L m) := hto
                have HBO : Hid (∃ b o, A2 = some ⟨b, o, none⟩ ∧ b < W.heap.size ∧ W.cell? ⟨b, o + i, none⟩ = some (.slice (a i) (L i) (C i))) := HG.out.outer i hlt
                clear hto
                obtain ⟨b, o, rfl, hbW, hcW⟩ := HBO.out
                have hc : wr.cell? ⟨b, o + i, none⟩ = some (.slice (a i) (L i) (C i)) := by obtain ⟨xs, h⟩ := HX.out; rw [h.below.cell (show b < W.heap.size from hbW)]; exact hcW
                generalize wr = wp at *
                go_wp2
                go_loopw [9, 12] (fun v q wr => ∃ (j N : Nat) (A3 : Option Addr) (c3 : Nat), j ≤ L i ∧ q = .int .i64 j ∧ v = .slice A3 N c3 ∧ Hid (∃ xs, HI W wr A3 N c3 xs n i j L T)) (fun _ q _ => L i - (intOf q).toNat)
                case atStart => exact ⟨0, _, _, _, by omega, rfl, rfl, HX.out⟩
                case round =>
                  obtain ⟨j, N, A3, c3, hj, rfl, rfl, HXJ⟩ := hrel
                  clear HX hc
                  obtain ⟨xs, hxs⟩ := HXJ.out
                  have hc : wr.cell? ⟨b, o + i, none⟩ = some (.slice (a i) (L i) (C i)) := by rw [hxs.below.cell (show b < W.heap.size from hbW)]; exact hcW
                  by_cases hjl : j < L i
                  · obtain ⟨b2, o2, ha, _, hc2⟩ := (hGI.below hxs.below (Nat.le_refl _)).cells j hjl
                    rw [ha] at hc
                    have hjl' : (j : Int) < (L i : Int) := by omega
                    have hNl := hxs.len
                    have hN1 : N + 1 ≤ 4294967296 := by have := HTO.out; omega
                    have HSX : Hid (Strs wr.heap.size wr A3 N (fun q => xs.getD q ⟨#[]⟩)) := hxs.own.strs hxs.small (by omega)
                    have HX2 : Hid (HI W wr A3 N c3 xs n i j L T) := hxs
                    have HSZ : Hid ((T i j).size ≤ maxLen) := hGI.small j hjl
                    clear hxs HXJ ha hNl hGI hcW
                    go_wp2_with (first
                      | (go_at_call 11; refine (member_any _ wr.heap.size _ _ _ _ _ HSX.out).mono ?_; rintro e w7 ⟨⟨bb, rfl, hbb⟩, hw7⟩; obtain rfl := hw7.symm; have HB : Hid (bb = true ↔ T i j ∈ xs) := (by rw [hbb, ← HX2.out.own.len]; exact mem_getD); clear hbb; cases bb)
                      | (at_builtin; refine app_one rfl _ _ rfl rfl rfl HX2.out.own hN1 HX2.out.below.size ?_; intro A4 c4 w4 hown4 hb4; go_frame)
                      | go_in)
                    · go_roundw
                      case rel => exact ⟨j + 1, N + 1, A4, c4, by omega, by go_num, rfl, _, HX2.out.add HSZ.out hown4 hb4⟩
                      case measure => simp [intOf]; omega
                    · go_roundw
                      case rel => exact ⟨j + 1, N, A3, c3, by omega, by go_num, rfl, _, HX2.out.skip (HB.out.1 trivial)⟩
                      case measure => simp [intOf]; omega
                  · go_wp2
                    go_roundw
                    case rel => exact ⟨i + 1, N, A3, c3, by omega, by go_num, rfl, xs, hxs.next (by omega)⟩
                    case measure => simp [intOf]; omega
              · have hmi : m = i := by omega
                subst hmi
                obtain ⟨xs, hxs⟩ := HX.out
                have hNl := hxs.len
                have hN1 : N ≤ 4294967296 := by omega
                have hszr : W.heap.size ≤ wr.heap.size := hxs.below.size
                have HSX : Hid (Strs wr.heap.size wr A3 N (fun q => xs.getD q ⟨#[]⟩)) := hxs.own.strs hxs.small (by omega)
                have HGX : Hid (Grid wr.heap.size wr A2 m a L C T) := (HG.out.below hxs.below (Nat.le_refl _)).mono hszr
                have HAll : Hid (AllIn N (fun q => xs.getD q ⟨#[]⟩) m L T) := fun i hi j hj => by rw [← hxs.own.len]; exact mem_getD.2 (hxs.done i hi j hj)
                have HX3 : Hid (HI W wr A3 N c3 xs n m 0 L T) := hxs
                clear HX hxs
                have k7 := build_any wr.heap.size A3 N c3 (fun q => xs.getD q ⟨#[]⟩) A2 m c2 a L C T wr (Nat.le_refl _) HSX.out HGX.out hN1 (by omega)
                generalize wr = wp at *
                by_cases hz : 0 ≤ z ∧ z < (tot L m : Int)
                · obtain ⟨k, rfl⟩ : ∃ k : Nat, z = (k : Int) := ⟨z.toNat, by omega⟩
                  have hk1 : ¬ (k : Int) < 0 := by omega
                  have hk2 : ¬ ((tot L m : Nat) : Int) ≤ (k : Int) := by omega
                  have hkt : k < tot L m := by omega
                  clear hz
                  go_wp2_with (first
                    | (go_at_call 7; refine k7.mono ?_; rintro e w5 ⟨hb5, p5, rfl, hR5⟩; have k8 := valid_of (Nat.le_refl _) HSX.out HGX.out hb5 hR5 hN1 (by omega); clear k7 hR5)
                    | (go_at_call 8; refine k8.mono ?_; rintro e w6 ⟨⟨bv, rfl, hbv⟩, hb6⟩; obtain rfl : bv = true := hbv.2 HAll.out; clear hbv k8)
                    | go_in)
                  have hb06 : Below wp.heap.size wp w6 := hb5.trans (hb6.mono hb5.size)
                  have hbW6 : Below W.heap.size W w6 := HX3.out.below.trans (hb06.mono hszr)
                  have HG6 : Hid (Grid W.heap.size w6 A2 m a L C T) := HG.out.below hbW6 (Nat.le_refl _)
                  have HO6 : Hid (Own w6 W.heap.size A3 N c3 xs) := HX3.out.own.below hb06 (Nat.le_refl _)
                  have HSM : Hid (∀ s ∈ xs, s.size ≤ maxLen) := HX3.out.small
                  clear HX3 HSX HGX HAll hb5 hb6 HG
                  -- the k-th logged entry
                  go_loop [13, 14, 15] (fun cv sv q => ∃ (i : Nat) (s : ByteArray), i ≤ m ∧ q = .int .i64 i ∧ sv = .int .i64 (tot L i : Int) ∧ cv = .string s ∧ Hid (k < tot L i → Logged m L T s)) (fun _ _ q => m - (intOf q).toNat)
                  case atStart => exact ⟨0, _, by omega, rfl, rfl, rfl, fun h => absurd h (Nat.not_lt_zero _)⟩
                  case round =>
                    obtain ⟨i, s, him, rfl, rfl, rfl, HK⟩ := hrel
                    by_cases hlt : i < m
                    · have hGI := HG6.out.inner i hlt
                      have hil := hGI.len
                      have hlt' : (i : Int) < (m : Int) := by omega
                      have hto : tot L i + L i ≤ tot L m := tot_le L (show i + 1 ≤ m by omega)
                      obtain ⟨b, o, rfl, hbW, hc⟩ := HG6.out.outer i hlt
                      go_wp2
                      go_loop [13, 14, 16] (fun cv sv q => ∃ (j : Nat) (s : ByteArray), j ≤ L i ∧ q = .int .i64 j ∧ sv = .int .i64 ((tot L i + j : Nat) : Int) ∧ cv = .string s ∧ Hid (k < tot L i + j → Logged m L T s)) (fun _ _ q => L i - (intOf q).toNat)
                      case atStart => exact ⟨0, s, by omega, rfl, by simp, rfl, HK.out⟩
                      case round =>
                        obtain ⟨j, s', hj, rfl, rfl, rfl, HK2⟩ := hrel
                        by_cases hjl : j < L i
                        · obtain ⟨b2, o2, ha, _, hc2⟩ := hGI.cells j hjl
                          rw [ha] at hc
                          have hjl' : (j : Int) < (L i : Int) := by omega
                          by_cases hkk : tot L i + j = k
                          · have hbe : (((tot L i + j : Nat) : Int) == (k : Int)) = true := by simp [hkk]
                            have HKK : Hid (tot L i + j = k) := hkk
                            clear hkk ha
                            go_wp2
                            go_round
                            case rel => exact ⟨j + 1, _, by omega, by go_num, by go_num, rfl, fun _ => ⟨i, j, hlt, hjl, rfl⟩⟩
                            case measure => simp [intOf]; omega
                          · have hbe : (((tot L i + j : Nat) : Int) == (k : Int)) = false := by simp; omega
                            have HKK : Hid (tot L i + j ≠ k) := hkk
                            clear hkk ha
                            go_wp2
                            go_round
                            case rel => exact ⟨j + 1, _, by omega, by go_num, by go_num, rfl, fun h => HK2.out (by have := HKK.out; omega)⟩
                            case measure => simp [intOf]; omega
                        · have hjL : L i = j := by omega
                          have HJL : Hid (L i = j) := hjL
                          clear hjL
                          go_wp2
                          have e1 : tot L (i + 1) = tot L i + j := by rw [← HJL.out]; rfl
                          exact ⟨⟨_, _, _, ⟨i + 1, by omega, rfl, rfl, s', rfl, fun h => HK2.out (by rw [← e1]; exact h)⟩, rfl, by rw [e1]; go_num, by go_num⟩, by simp [intOf]; omega⟩
                    · have hmi : m = i := by omega
                      subst hmi
                      have HKM : Hid (Logged m L T s) := HK.out hkt
                      clear HK
                      go_wp2_with (first
                        | (at_make; refine wpList_make_own _ rfl _ _ 22 rfl w6.heap.size 9 i9 (.string ⟨#[]⟩) 1 Try.underlying22 hi9 hz9 hs9 _ _ _ N rfl rfl rfl (by rw [hb9]; omega) (by unfold maxLen; omega) (Nat.le_refl _) ?_; intro w8 hrow8 hg8)
                        | go_in)
                      have ho8 : Own w8 w6.heap.size (some ⟨w6.heap.size, 0, none⟩) 0 N [] := own_made hrow8
                      have hb8 : Below w6.heap.size w6 w8 := (Below.refl _ w6).grown hg8 (Nat.le_refl _) (fun j hj => by cases hj)
                      have HS6 : Hid (Strs w6.heap.size w6 A3 N (fun q => xs.getD q ⟨#[]⟩)) := HO6.out.strs HSM.out (by omega)
                      have HXL : Hid (xs.length = N) := HO6.out.len
                      clear hrow8 hg8 HO6
                      -- the list without s
                      go_loopw [17, 18] (fun v q wr => ∃ (i M : Nat) (A4 : Option Addr) (c4 : Nat), i ≤ N ∧ q = .int .i64 i ∧ v = .slice A4 M c4 ∧ Hid (∃ ys, Own wr w6.heap.size A4 M c4 ys ∧ M ≤ i ∧ (∀ y ∈ ys, y ≠ s ∧ y.size ≤ maxLen) ∧ Below w6.heap.size w6 wr)) (fun _ q _ => N - (intOf q).toNat)
                      case atStart => exact ⟨0, 0, _, _, by omega, rfl, rfl, [], ho8, by omega, (fun y hy => by cases hy), hb8⟩
                      case round =>
                        obtain ⟨i, M, A4, c4, hiN, rfl, rfl, HY⟩ := hrel
                        clear ho8 hb8
                        obtain ⟨ys, hys⟩ := HY.out
                        have hMi := hys.2.1
                        by_cases hlt : i < N
                        · obtain ⟨b, o, rfl, _, hc⟩ := (HS6.out.below hys.2.2.2 (Nat.le_refl _)).cells i hlt
                          have hlt' : (i : Int) < (N : Int) := by omega
                          have hsi := HS6.out.small i hlt
                          have HY2 : Hid (Own wr w6.heap.size A4 M c4 ys ∧ M ≤ i ∧ (∀ y ∈ ys, y ≠ s ∧ y.size ≤ maxLen) ∧ Below w6.heap.size w6 wr) := hys
                          have HSI : Hid ((xs.getD i ⟨#[]⟩).size ≤ maxLen) := hsi
                          clear hys HY hsi
                          generalize xs.getD i ⟨#[]⟩ = x at *
                          by_cases he : x = s
                          · have hbe : (x.toList == s.toList) = true := (bytes_beq_iff _ _).2 he
                            clear he
                            go_wp2
                            go_roundw
                            case rel => exact ⟨i + 1, M, A4, c4, by omega, by go_num, rfl, ys, HY2.out.1, by omega, HY2.out.2.2⟩
                            case measure => simp [intOf]; omega
                          · have hbe : (x.toList == s.toList) = false := (bytes_beq_false_iff _ _).2 he
                            have HE : Hid (x ≠ s) := he
                            clear he
                            go_wp2_with (first
                              | (at_builtin; refine app_one rfl _ _ rfl rfl rfl HY2.out.1 (by omega) HY2.out.2.2.2.size ?_; intro A5 c5 w9 hown9 hb9; go_frame)
                              | go_in)
                            go_roundw
                            case rel =>
                              refine ⟨i + 1, M + 1, A5, c5, by omega, by go_num, rfl, ys ++ [x], hown9, by omega, fun y hy => ?_, HY2.out.2.2.2.trans hb9⟩
                              rcases List.mem_append.1 hy with h' | h'
                              · exact HY2.out.2.2.1 y h'
                              · simp at h'; subst h'; exact ⟨HE.out, HSI.out⟩
                            case measure => simp [intOf]; omega
                        · obtain ⟨ho, _, hall, hbr⟩ := hys
                          have hszw := hbr.size
                          have hsz6 := hbW6.size
                          have HSY : Hid (Strs wr.heap.size wr A4 M (fun q => ys.getD q ⟨#[]⟩)) := ho.strs (fun y hy => (hall y hy).2) (by omega)
                          have HGY : Hid (Grid wr.heap.size wr A2 m a L C T) := (HG6.out.below hbr (by omega)).mono (by omega)
                          have HNo : Hid (¬ AllIn M (fun q => ys.getD q ⟨#[]⟩) m L T) := fun h => by
                            obtain ⟨i', j', h1, h2, h3⟩ := HKM.out
                            have := h i' h1 j' h2
                            rw [h3, ← ho.len] at this
                            exact (hall s (mem_getD.1 this)).1 rfl
                          have HBR : Hid (Below w6.heap.size w6 wr) := hbr
                          have k7 := build_any wr.heap.size A4 M c4 (fun q => ys.getD q ⟨#[]⟩) A2 m c2 a L C T wr (Nat.le_refl _) HSY.out HGY.out (by omega) (by omega)
                          clear ho hall hbr HY
                          go_wp2_with (first
                            | (go_at_call 7; refine k7.mono ?_; rintro e w5 ⟨hb5, p5, rfl, hR5⟩; have k8 := valid_of (Nat.le_refl _) HSY.out HGY.out hb5 hR5 (by omega) (by omega); clear k7 hR5)
                            | (go_at_call 8; refine k8.mono ?_; rintro e w11 ⟨⟨bv, rfl, hbv⟩, hb11⟩; obtain rfl : bv = false := (by cases bv; rfl; exact absurd (hbv.1 rfl) HNo.out); clear hbv k8)
                            | go_in)
                          go_ret
                          exact ⟨rfl, hbW6.trans ((HBR.out.mono hsz6).trans ((hb5.trans (hb11.mono hb5.size)).mono (by omega)))⟩
                · have hz' : z < 0 ∨ (tot L m : Int) ≤ z := by omega
                  clear hz
                  rcases hz' with hz' | hz'
                  all_goals
                    go_wp2_with (first
                      | (go_at_call 7; refine k7.mono ?_; rintro e w5 ⟨hb5, p5, rfl, hR5⟩; have k8 := valid_of (Nat.le_refl _) HSX.out HGX.out hb5 hR5 hN1 (by omega); clear k7 hR5)
                      | (go_at_call 8; refine k8.mono ?_; rintro e w6 ⟨⟨bv, rfl, hbv⟩, hb6⟩; obtain rfl : bv = true := hbv.2 HAll.out; clear hbv k8)
                      | go_in)
                    go_ret
                    exact ⟨rfl, HX3.out.below.trans ((hb5.trans (hb6.mono hb5.size)).mono hszr)⟩
end Go.Proofs.Qxb6628347a
