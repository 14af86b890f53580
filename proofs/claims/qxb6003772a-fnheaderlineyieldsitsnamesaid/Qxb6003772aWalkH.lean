/-
  SEAT b6003772a: the header's law.
-/
import Derived.Test.Qxb6003772aWalkG
namespace Go.Proofs.Qxb6003772a
open Go.RowKit Math

set_option maxHeartbeats 400000 in
theorem zzdef_hdr (p : Option Addr) (n c g nd cd r k : Nat) (T : List Int) (D : List (Nat × Bool)) (w : World) (hn : n ≤ 8388608) (hnd : nd ≤ 8388608) (hT : Txt w p n c T) (hD : Dl w (some ⟨g, 0, none⟩) nd cd D) (H : Hdr D r k) (hk2 : 2 ≤ k) (hkn : k + 3 ≤ n) (h61 : nth T (k + 2) = 61) :
    Calls Try.prog 12 #[.slice p n c, .slice (some ⟨g, 0, none⟩) nd cd] w fun e w' => DefPost w n c k T e w' := by
  have h := def_hdr p n c g nd cd r k T D w hn hnd hT hD H hk2 hkn h61
  clear hT hD H h61
  go_enter Try.func12, Try.ntmps12
  go_wp2_with (go_at_call 21; refine h.mono ?_; rintro e w' ⟨p', rfl, h1, h2⟩)
  go_ret3
  exact ⟨p', rfl, h1, h2⟩

/-! ### What scan and definition make of a header: plain -/
theorem nth_cons (x : Int) (l : List Int) (i : Nat) : nth (x :: l) (i + 1) = nth l i := rfl

theorem hdr_of (O : List (Nat × Bool)) (k : Nat) (hO : ∀ d ∈ O, d.2 = true) : Hdr ((0, true) :: (O ++ [(k, false)])) O.length k := by
  have hget : ∀ j, ((0, true) :: (O ++ [(k, false)])).getD (j + 1) (0, false) = (O ++ [(k, false)]).getD j (0, false) := fun j => rfl
  refine ⟨⟨rfl, rfl⟩, fun j h1 h2 => ?_, ?_, by simp⟩
  · obtain ⟨i, rfl⟩ : ∃ i, j = i + 1 := ⟨j - 1, by omega⟩
    unfold dOp
    rw [hget, List.getD_eq_getElem?_getD, List.getElem?_append_left (by omega), List.getElem?_eq_getElem (by omega)]
    exact hO _ (List.getElem_mem _)
  · unfold dAt dOp
    rw [hget, List.getD_eq_getElem?_getD, List.getElem?_append_right (Nat.le_refl _), Nat.sub_self]
    exact ⟨rfl, rfl⟩

theorem hdr_text (name tail : List Int) (n m : Nat) (hn : name.length = n) (hm : tail.length = m) :
    (60 :: 60 :: (name ++ 62 :: 62 :: 61 :: tail)).length = n + m + 5 ∧ nth (60 :: 60 :: (name ++ 62 :: 62 :: 61 :: tail)) (2 + n + 2) = 61 ∧ ((60 :: 60 :: (name ++ 62 :: 62 :: 61 :: tail)).drop 2).take (2 + n - 2) = name ∧ (60 :: 60 :: (name ++ 62 :: 62 :: 61 :: tail)).drop (2 + n + 3) = tail := by
  subst hn hm
  refine ⟨by simp; omega, ?_, ?_, ?_⟩
  · rw [show 2 + name.length + 2 = (name.length + 2) + 1 + 1 from by omega, nth_cons, nth_cons, ← nth_hi name _ 2]
    rfl
  · rw [show 2 + name.length - 2 = name.length from by omega]
    show (name ++ 62 :: 62 :: 61 :: tail).take name.length = name
    rw [List.take_left']
    rfl
  · rw [show 2 + name.length + 3 = (name.length + 3) + 1 + 1 from by omega]
    show (name ++ 62 :: 62 :: 61 :: tail).drop (name.length + 3) = tail
    rw [List.drop_append]
    simp

theorem hdr_line (name tail : List Int) : ((([60, 60] ++ escAt false name) ++ [62, 62, 61]) ++ escAt false tail) = 60 :: 60 :: (esc name ++ (62 :: 62 :: 61 :: esc tail)) := by
  rw [← escAt_false name, ← escAt_false tail]
  simp

theorem escAt_length (b : Bool) (t : List Int) : (escAt b t).length ≤ 2 * t.length + 1 := by
  unfold escAt
  have := esc_length t
  rw [List.length_append]
  split
  · simp only [List.length_cons, List.length_nil]; omega
  · simp only [List.length_nil]; omega

theorem last_nth (l : List Int) (h : 0 < l.length) (x : Int) (hx : l.getLast? = some x) : x = nth l (l.length - 1) := by
  rw [List.getLast?_eq_getElem?, List.getElem?_eq_getElem (by omega), nth_eq l _ (by omega)] at hx
  exact (Option.some.inj hx).symm

set_option maxHeartbeats 400000 in
theorem law4_long (a a' : Option Addr) (n c n' c' : Nat) (w : World) (h : 1048576 < n + n') : Calls Try.prog 4 #[.slice a n c, .slice a' n' c'] w fun e w' => e = .returned (.bool true) ∧ Below w.heap.size w w' := by
  go_enter Try.func4, Try.ntmps4
  go_wp2_with (go_at_call 15; refine (bytes15_no _ _ _ _ _ _ _ h).mono ?_; rintro e w' ⟨rfl, rfl⟩)
  go_ret
  exact ⟨rfl, Below.refl _ _⟩

set_option maxHeartbeats 4000000 in
set_option maxRecDepth 100000 in
theorem law4_short (a0 : Option Addr) (n c0 : Nat) (z0 : List Int) (a1 : Option Addr) (m c1 : Nat) (z1 : List Int) (w : World) (hnm : n + m ≤ 1048576) (w0 : IsRow .u8 w a0 n c0 z0) (w1 : IsRow .u8 w a1 m c1 z1) :
    Calls Try.prog 4 #[.slice a0 n c0, .slice a1 m c1] w fun e w' => e = .returned (.bool true) ∧ Below w.heap.size w w' := by
  obtain ⟨name, hn, hnb, hnc, hncopy⟩ := copy_arg (by omega) w0
  obtain ⟨tail, hm, hmb, hmc, hmcopy⟩ := copy_arg (by omega) w1
  have HN : Hid (name.length = n) := hn
  have HM : Hid (tail.length = m) := hm
  have HNC : Hid (0 < n → ∃ b o, a0 = some ⟨b, o, none⟩ ∧ ∀ j, j < n → w.cell? ⟨b, o + j, none⟩ = some (.int .u8 (nth name j))) := hnc
  have H1 := hncopy w (Below.refl _ _)
  have H2 : Hid (∀ W : World, Below w.heap.size w W → Calls Try.prog 8 #[.slice a1 m c1] W fun e w' => ∃ p c', e = .returned (.slice p m c') ∧ Txt w' p m c' tail ∧ Below W.heap.size W w') := hmcopy
  have hd1 : decide ((1048576 : Int) < (n : Int)) = false := decide_eq_false (by omega)
  have hd2 : decide ((1048576 : Int) < (m : Int)) = false := decide_eq_false (by omega)
  have hd3 : decide ((1048576 : Int) < (n : Int) + (m : Int)) = false := decide_eq_false (by omega)
  clear hn hm hnb hmb hnc hmc hncopy hmcopy w0 w1
  go_enter Try.func4, Try.ntmps4
  go_upto_region 5 with (go_at_call 15; refine (bytes15_yes _ _ _ _ _ _ _ hnm).mono ?_; rintro e w' ⟨rfl, rfl⟩)
  go_cut [51] from 11 to 51 (fun t wc => w = wc ∧ ∃ tb : Bool, t = .bool tb ∧ Hid (tb = false → ∀ x, name.getLast? = some x → x ≠ 62 ∧ x ≠ 64))
  case first =>
    clear H1 H2
    rcases Nat.eq_zero_or_pos n with rfl | hpos
    · have hd4 : decide ((0 : Int) < ((0 : Nat) : Int)) = false := by decide
      have HE : Hid (∀ x, name.getLast? = some x → x ≠ 62 ∧ x ≠ 64) := fun x hx => by
        rw [List.eq_nil_of_length_eq_zero HN.out] at hx
        cases hx
      go_wp2
      go_meet
      case rel => exact ⟨rfl, false, rfl, fun _ => HE.out⟩
    · obtain ⟨b, o, rfl, hcs⟩ := HNC.out hpos
      have hc := hcs (n - 1) (by omega)
      have hz : (0 : Int) < (n : Int) := by omega
      have HLAST : Hid (∀ x, name.getLast? = some x → x = nth name (n - 1)) := fun x hx => by
        have := last_nth name (by rw [HN.out]; exact hpos) x hx
        rw [HN.out] at this
        exact this
      obtain ⟨y, hy⟩ : ∃ y, nth name (n - 1) = y := ⟨_, rfl⟩
      have HY : Hid (∀ x, name.getLast? = some x → x = y) := fun x hx => (HLAST.out x hx).trans hy
      rw [hy] at hc
      clear hcs HNC HLAST hy
      by_cases h62 : y = 62
      · have e62 : (y == 62) = true := beq_iff_eq.2 h62
        clear h62 HY
        go_wp2
        go_meet
        case rel => exact ⟨rfl, true, rfl, fun e => by cases e⟩
      · have e62 : (y == 62) = false := beq_eq_false_iff_ne.2 h62
        by_cases h64 : y = 64
        · have e64 : (y == 64) = true := beq_iff_eq.2 h64
          clear h62 h64 HY
          go_wp2
          go_meet
          case rel => exact ⟨rfl, true, rfl, fun e => by cases e⟩
        · have e64 : (y == 64) = false := beq_eq_false_iff_ne.2 h64
          have HE : Hid (∀ x, name.getLast? = some x → x ≠ 62 ∧ x ≠ 64) := fun x hx => by rw [HY.out x hx]; exact ⟨h62, h64⟩
          clear h62 h64 HY
          go_wp2
          go_meet
          case rel => exact ⟨rfl, false, rfl, fun _ => HE.out⟩
  case rest =>
    obtain ⟨rfl, tb, rfl, HTB⟩ := hcut
    cases tb with
    | true =>
      go_wp2
      go_ret
      exact ⟨rfl, Below.refl _ _⟩
    | false =>
      have HLAST : Hid (∀ x, name.getLast? = some x → x ≠ 62 ∧ x ≠ 64) := HTB.out rfl
      clear HTB HNC
      go_wp2_with fail
      refine H1.mono ?_
      rintro e w1 ⟨p, c, rfl, hN1, hb1⟩
      go_wp2_with fail
      refine (H2.out w1 hb1).mono ?_
      rintro e w2 ⟨q, d, rfl, hM2, hb2⟩
      have hN2 := hN1.later hb2
      have hB2 : Below w.heap.size w w2 := hb1.trans (hb2.mono hb1.size)
      clear hN1 hb1 hb2 H1 H2
      have kc := fun (w : World) (C : Array Value) (n c : Nat) => Lib.run_convert_bytes_const (P := Try.prog) w 22 5 C n c Try.underlying22 Try.underlying5
      go_wp2_with fail
      -- the literal, the escaped name
      have hb3 : Below w2.heap.size w2 (w2.alloc (.cells #[.int .u8 60, .int .u8 60] 5 (2, 3))) := (Below.refl _ _).alloc (Nat.le_refl _) _
      have hS3 := const_txt w2 [60, 60] 2 rfl (by intro x hx; simp at hx; omega) (2, 3)
      refine (escape_any p n c name false _ (by omega) (hN2.later hb3)).mono ?_
      rintro e w4 ⟨p4, n4, c4, rfl, hE4, hb4⟩
      have hS4 := Txt.later hS3 hb4
      have hN4 := (hN2.later hb3).later hb4
      have hM4 := (hM2.later hb3).later hb4
      have hB3 : Below w.heap.size w (w2.alloc (.cells #[.int .u8 60, .int .u8 60] 5 (2, 3))) := hB2.trans (hb3.mono hB2.size)
      have hB4 : Below w.heap.size w w4 := hB3.trans (hb4.mono hB3.size)
      have hn4 : n4 ≤ 2 * n + 1 := by rw [← hE4.1, ← HN.out]; exact escAt_length _ _
      generalize w2.heap.size = g2 at hS4 ⊢
      clear hN2 hM2 hb3 hS3 hb4 hB3 hB2
      go_wp2_with fail
      refine (join_any _ _ 2 n4 2 c4 _ _ w4 (by omega) hS4 hE4).mono ?_
      rintro e w5 ⟨g5, rfl, hL5, hb5⟩
      have hN5 := hN4.later hb5
      have hM5 := hM4.later hb5
      have hB5 : Below w.heap.size w w5 := hB4.trans (hb5.mono hB4.size)
      clear hS4 hE4 hN4 hM4 hb5 hB4
      go_wp2_with fail
      have hb6 : Below w5.heap.size w5 (w5.alloc (.cells #[.int .u8 62, .int .u8 62, .int .u8 61] 5 (3, 4))) := (Below.refl _ _).alloc (Nat.le_refl _) _
      have hS6 := const_txt w5 [62, 62, 61] 3 rfl (by intro x hx; simp at hx; omega) (3, 4)
      refine (join_any _ _ (2 + n4) 3 (2 + n4) 3 _ _ _ (by omega) (hL5.later hb6) hS6).mono ?_
      rintro e w7 ⟨g7, rfl, hL7, hb7⟩
      have hN7 := (hN5.later hb6).later hb7
      have hM7 := (hM5.later hb6).later hb7
      have hB6 : Below w.heap.size w (w5.alloc (.cells #[.int .u8 62, .int .u8 62, .int .u8 61] 5 (3, 4))) := hB5.trans (hb6.mono hB5.size)
      have hB7 : Below w.heap.size w w7 := hB6.trans (hb7.mono hB6.size)
      generalize w5.heap.size = g5' at *
      clear hL5 hN5 hM5 hB5 hb6 hS6 hb7 hB6
      go_wp2_with fail
      refine (escape_any q m d tail false w7 (by omega) hM7).mono ?_
      rintro e w8 ⟨p8, n8, c8, rfl, hE8, hb8⟩
      have hN8 := hN7.later hb8
      have hM8 := hM7.later hb8
      have hL8 := hL7.later hb8
      have hB8 : Below w.heap.size w w8 := hB7.trans (hb8.mono hB7.size)
      have hn8 : n8 ≤ 2 * m + 1 := by rw [← hE8.1, ← HM.out]; exact escAt_length _ _
      clear hL7 hN7 hM7 hB7 hb8
      go_wp2_with fail
      refine (join_any _ _ (2 + n4 + 3) n8 (2 + n4 + 3) c8 _ _ w8 (by omega) hL8 hE8).mono ?_
      rintro e w9 ⟨g9, rfl, hL9, hb9⟩
      have hN9 := hN8.later hb9
      have hM9 := hM8.later hb9
      have hB9 : Below w.heap.size w w9 := hB8.trans (hb9.mono hB8.size)
      clear hL8 hN8 hM8 hB8 hb9 hE8
      rw [hdr_line] at hL9
      go_wp2_with fail
      refine (zzscan_any _ _ _ _ w9 (by omega) hL9).mono ?_
      rintro e w10 ⟨pt, nt, ct, pd, nd, cd, T, D, rfl, hTD, hT10, hD10, hb10⟩
      obtain ⟨O, hO, hO1, hsc⟩ := scan_header name tail HLAST.out
      rw [hsc] at hTD
      obtain ⟨rfl, rfl⟩ := Prod.mk.inj hTD
      have hN10 := hN9.later hb10
      have hM10 := hM9.later hb10
      have hB10 : Below w.heap.size w w10 := hB9.trans (hb10.mono hB9.size)
      have hX := hdr_text name tail n m HN.out HM.out
      have hnt : nt = n + m + 5 := hT10.1.symm.trans hX.1
      subst hnt
      rw [HN.out] at hD10
      have hHdr := hdr_of O (2 + n) hO
      obtain ⟨g10, rfl, _, _⟩ := hD10.2.2 (by rw [← hD10.1]; simp)
      have hnd : nd ≤ 8388608 := by
        rw [← hD10.1]
        simp
        omega
      clear hTD hsc hN9 hM9 hB9 hb10 hL9
      go_wp2_with fail
      refine (zzdef_hdr pt (n + m + 5) ct g10 nd cd O.length (2 + n) _ _ w10 (by omega) hnd hT10 hD10 hHdr (by omega) (by omega) hX.2.1).mono ?_
      rintro e w11 ⟨p', rfl, hR11, hb11⟩
      rw [hX.2.2.1]
      rw [hX.2.2.2, show n + m + 5 - (2 + n + 2) - 1 = m from by omega] at hR11
      rw [show n + m + 5 - (2 + n + 2) - 1 = m from by omega]
      have hN11 := hN10.later hb11
      have hM11 := hM10.later hb11
      have hB11 : Below w.heap.size w w11 := hB10.trans (hb11.mono hB10.size)
      have hcv := conv_txt hN11
      have heq := equal_same p' q m _ d tail w11 (by omega) hR11 hM11
      have hss : ((strOfNums name).toList == (strOfNums name).toList) = true := by simp
      clear hN10 hM10 hB10 hb11 hT10 hD10 hHdr hX hR11 hM11 hN11
      generalize strOfNums name = s at *
      go_wp2_with fail
      refine heq.mono ?_
      rintro e w12 ⟨rfl, hb12⟩
      go_wp2
      go_ret
      exact ⟨rfl, hB11.trans (hb12.mono hB11.size)⟩

theorem law4 (a0 : Option Addr) (len0 cap0 : Nat) (z0 : List Int) (a1 : Option Addr) (len1 cap1 : Nat) (z1 : List Int) (w : World) (w0 : IsRow .u8 w a0 len0 cap0 z0) (w1 : IsRow .u8 w a1 len1 cap1 z1) :
    Calls Try.prog 4 #[.slice a0 len0 cap0, .slice a1 len1 cap1] w fun e w' => e = .returned (.bool true) ∧ Below w.heap.size w w' := by
  by_cases h : 1048576 < len0 + len1
  · exact law4_long a0 a1 len0 cap0 len1 cap1 w h
  · exact law4_short a0 len0 cap0 z0 a1 len1 cap1 z1 w (by omega) w0 w1
end Go.Proofs.Qxb6003772a
