/-
  SEAT b6003772a: TrimEOL and isDocumentation of an escaped line; the escaped line's law.
-/
import Derived.Test.Qxb6003772aWalkG
namespace Go.Proofs.Qxb6003772a
open Go.RowKit Math

/-- How much of a line TrimEOL leaves. -/
def eol (l : List Int) : Nat :=
  if 0 < l.length ∧ nth l (l.length - 1) = 10 then (if 0 < l.length - 1 ∧ nth l (l.length - 1 - 1) = 13 then l.length - 2 else l.length - 1) else l.length

theorem eol_le (l : List Int) : eol l ≤ l.length := by unfold eol; split <;> (try split) <;> omega

set_option maxHeartbeats 1000000 in
theorem trim_any (p : Option Addr) (n c m : Nat) (l : List Int) (w : World) (hn : n ≤ 16777216) (h : Txt w p n c l) (hm : Hid (eol l = m)) :
    ∃ p', Txt w p' m c (l.take m) ∧ Calls Try.prog 28 #[.slice p n c, .bool false] w fun e w' => e = .returned (.slice p' m c) ∧ w = w' := by
  have hml : m ≤ n := by rw [← hm.out, ← h.1]; exact eol_le l
  obtain ⟨p', hsl, ht⟩ := slice_upto h m hml
  refine ⟨p', ht, ?_⟩
  clear ht
  have HL : Hid (l.length = n) := h.1
  rcases Nat.eq_zero_or_pos n with rfl | hpos
  · have hm0 : 0 = m := by omega
    subst hm0
    have hd : decide ((0 : Int) < ((0 : Nat) : Int)) = false := by decide
    rw [show ((0 : Nat) : Int) = 0 from rfl] at hsl
    clear h
    go_enter Try.func28, Try.ntmps28
    go_wp2
    go_ret
    exact ⟨rfl, rfl⟩
  · obtain ⟨b, o, rfl, _, hcs⟩ := h.at 0 hpos
    have hz : (0 : Int) < (n : Int) := by omega
    have g0 := hcs (n - 1) (by omega)
    obtain ⟨x, hx⟩ : ∃ x, nth l (n - 1) = x := ⟨_, rfl⟩
    rw [hx] at g0
    by_cases h10 : x = 10
    · have e10 : (x == 10) = true := beq_iff_eq.2 h10
      by_cases hn1 : 1 < n
      · have hz1 : (0 : Int) < (n : Int) - 1 := by omega
        have g1 := hcs (n - 1 - 1) (by omega)
        obtain ⟨y, hy⟩ : ∃ y, nth l (n - 1 - 1) = y := ⟨_, rfl⟩
        rw [hy] at g1
        by_cases h13 : y = 13
        · have e13 : (y == 13) = true := beq_iff_eq.2 h13
          have hmm : m = n - 2 := by
            rw [← hm.out]; unfold eol
            rw [HL.out, if_pos ⟨hpos, hx.trans h10⟩, if_pos ⟨by omega, hy.trans h13⟩]
          rw [show (m : Int) = (n : Int) - 1 - 1 from by omega] at hsl
          clear h hcs hm hx hy h10 h13 hmm
          go_enter Try.func28, Try.ntmps28
          go_wp2
          go_ret
          exact ⟨rfl, rfl⟩
        · have e13 : (y == 13) = false := beq_eq_false_iff_ne.2 h13
          have hmm : m = n - 1 := by
            rw [← hm.out]; unfold eol
            rw [HL.out, if_pos ⟨hpos, hx.trans h10⟩, if_neg (fun e => h13 (hy.symm.trans e.2))]
          rw [show (m : Int) = (n : Int) - 1 from by omega] at hsl
          clear h hcs hm hx hy h10 h13 hmm
          go_enter Try.func28, Try.ntmps28
          go_wp2
          go_ret
          exact ⟨rfl, rfl⟩
      · have hd : decide ((0 : Int) < (n : Int) - 1) = false := decide_eq_false (by omega)
        have hmm : m = n - 1 := by
          rw [← hm.out]; unfold eol
          rw [HL.out, if_pos ⟨hpos, hx.trans h10⟩, if_neg (fun e => by omega)]
        rw [show (m : Int) = (n : Int) - 1 from by omega] at hsl
        clear h hcs hm hx h10 hmm
        go_enter Try.func28, Try.ntmps28
        go_wp2
        go_ret
        exact ⟨rfl, rfl⟩
    · have e10 : (x == 10) = false := beq_eq_false_iff_ne.2 h10
      have hmm : n = m := by
        rw [← hm.out]; unfold eol
        rw [HL.out, if_neg (fun e => h10 (hx.symm.trans e.2))]
      subst hmm
      clear h hcs hm hx h10
      go_enter Try.func28, Try.ntmps28
      go_wp2
      go_ret
      exact ⟨rfl, rfl⟩

/-- Is the line no documentation? -/
def NoDoc (l : List Int) : Prop := eol l = 0 ∨ (0 < eol l ∧ nth l 0 ≠ 64) ∨ (2 ≤ eol l ∧ nth l 1 ≠ 32 ∧ nth l 1 ≠ 9)

set_option maxHeartbeats 1000000 in
theorem doc_no (p : Option Addr) (n c : Nat) (l : List Int) (w : World) (hn : n ≤ 16777216) (h : Txt w p n c l) (hd : NoDoc l) :
    Calls Try.prog 22 #[.slice p n c] w fun e w' => e = .returned (.bool false) ∧ w = w' := by
  obtain ⟨m, hm⟩ : ∃ m, eol l = m := ⟨_, rfl⟩
  obtain ⟨p', ht, hcall⟩ := trim_any p n c m l w hn h hm
  have hml : m ≤ n := by rw [← hm, ← h.1]; exact eol_le l
  unfold NoDoc at hd
  rw [hm] at hd
  clear h hm
  rcases Nat.eq_zero_or_pos m with rfl | hpos
  · have hdd : decide ((0 : Int) < ((0 : Nat) : Int)) = false := by decide
    clear ht hd
    go_enter Try.func22, Try.ntmps22
    go_wp2_with (go_at_call 28; refine hcall.mono ?_; rintro e w' ⟨rfl, rfl⟩)
    go_ret
    exact ⟨rfl, rfl⟩
  · obtain ⟨b, o, rfl, _, hcs⟩ := ht.at 0 hpos
    have hz : (0 : Int) < (m : Int) := by omega
    have g0 := hcs 0 hpos
    rw [nth_take l m 0 hpos, Nat.add_zero] at g0
    obtain ⟨x, hx⟩ : ∃ x, nth l 0 = x := ⟨_, rfl⟩
    rw [hx] at g0 hd
    by_cases h64 : x = 64
    · have e64 : (x == 64) = true := beq_iff_eq.2 h64
      have hd3 : 2 ≤ m ∧ nth l 1 ≠ 32 ∧ nth l 1 ≠ 9 := by
        rcases hd with h | ⟨_, h⟩ | h
        · omega
        · exact absurd h64 h
        · exact h
      have g1 := hcs 1 (by omega)
      rw [nth_take l m 1 (by omega)] at g1
      obtain ⟨y, hy⟩ : ∃ y, nth l 1 = y := ⟨_, rfl⟩
      rw [hy] at g1 hd3
      have e32 : (y == 32) = false := beq_eq_false_iff_ne.2 hd3.2.1
      have e9 : (y == 9) = false := beq_eq_false_iff_ne.2 hd3.2.2
      have hz1 : (1 : Int) < (m : Int) := by omega
      have hm1 : ((m : Int) == 1) = false := beq_eq_false_iff_ne.2 (by omega)
      clear ht hcs hd hd3 h64 hx hy
      go_enter Try.func22, Try.ntmps22
      go_wp2_with (go_at_call 28; refine hcall.mono ?_; rintro e w' ⟨rfl, rfl⟩)
      go_ret
      exact ⟨rfl, rfl⟩
    · have e64 : (x == 64) = false := beq_eq_false_iff_ne.2 h64
      clear ht hcs hd h64 hx
      go_enter Try.func22, Try.ntmps22
      go_wp2_with (go_at_call 28; refine hcall.mono ?_; rintro e w' ⟨rfl, rfl⟩)
      go_ret
      exact ⟨rfl, rfl⟩

set_option maxHeartbeats 400000 in
theorem zzdoc_no (p : Option Addr) (n c : Nat) (l : List Int) (w : World) (hn : n ≤ 16777216) (h : Txt w p n c l) (hd : NoDoc l) :
    Calls Try.prog 13 #[.slice p n c] w fun e w' => e = .returned (.bool false) ∧ w = w' := by
  have hc := doc_no p n c l w hn h hd
  clear h hd
  go_enter Try.func13, Try.ntmps13
  go_wp2_with (go_at_call 22; refine hc.mono ?_; rintro e w' ⟨rfl, rfl⟩)
  go_ret
  exact ⟨rfl, rfl⟩

theorem escAt_length (b : Bool) (t : List Int) : (escAt b t).length ≤ 2 * t.length + 1 := by
  unfold escAt
  have := esc_length t
  rw [List.length_append]
  split
  · simp only [List.length_cons, List.length_nil]; omega
  · simp only [List.length_nil]; omega

/-! ### An escaped line is no documentation -/
theorem escAt_head (t : List Int) : escAt true t = [] ∨ (∃ x r, escAt true t = x :: r ∧ x ≠ 64) ∨ ∃ y r, escAt true t = 64 :: y :: r ∧ (y = 64 ∨ y = 60 ∨ y = 62) := by
  match t with
  | [] => exact .inl (by unfold escAt; rw [if_neg (fun e => by cases e.2)]; rfl)
  | x :: r =>
    by_cases hx : x = 64
    · subst hx
      refine .inr (.inr ⟨64, esc r, ?_, .inl rfl⟩)
      unfold escAt
      rw [if_pos ⟨rfl, rfl⟩, esc_64]
      rfl
    · have e : escAt true (x :: r) = esc (x :: r) := by
        unfold escAt
        rw [if_neg (by rintro ⟨_, h⟩; cases h; exact hx rfl)]
        rfl
      rw [e]
      match r with
      | [] => exact .inr (.inl ⟨x, [], rfl, hx⟩)
      | y :: r =>
        cases hp : pair x y with
        | true =>
          rw [esc_pair r hp]
          refine .inr (.inr ⟨x, _, rfl, .inr ?_⟩)
          exact (pair_iff.1 hp).2
        | false =>
          rw [esc_plain r hp]
          exact .inr (.inl ⟨x, _, rfl, hx⟩)

theorem eol_two (y : Int) (r : List Int) (hy : y = 64 ∨ y = 60 ∨ y = 62) : 2 ≤ eol (64 :: y :: r) := by
  unfold eol
  simp only [List.length_cons]
  split
  · rename_i h
    match r, h with
    | [], h =>
      have : nth (64 :: y :: []) 1 = y := rfl
      have h2 := h.2
      simp at h2
      rw [this] at h2
      omega
    | z :: r, h =>
      split
      · rename_i h2
        match r, h2 with
        | [], h2 =>
          have : nth (64 :: y :: z :: []) 1 = y := rfl
          have h3 := h2.2
          simp at h3
          rw [this] at h3
          omega
        | u :: r, h2 => simp only [List.length_cons]; omega
      · simp only [List.length_cons]; omega
  · omega

theorem noDoc_line (t S : List Int) (hS : S = [] ∨ S = [10]) : NoDoc (escAt true t ++ S) := by
  unfold NoDoc
  rcases escAt_head t with e | ⟨x, r, e, hx⟩ | ⟨y, r, e, hy⟩
  · left
    rw [e]
    rcases hS with rfl | rfl <;> rfl
  · rcases Nat.eq_zero_or_pos (eol (escAt true t ++ S)) with h0 | h0
    · exact .inl h0
    · refine .inr (.inl ⟨h0, ?_⟩)
      rw [e]
      exact hx
  · refine .inr (.inr ?_)
    rw [e]
    refine ⟨eol_two y (r ++ S) hy, ?_⟩
    have : nth (64 :: y :: r ++ S) 1 = y := rfl
    rw [this]
    omega

set_option maxHeartbeats 400000 in
theorem law3_long (a : Option Addr) (n c : Nat) (w : World) (h : 1048576 < n) : Calls Try.prog 3 #[.slice a n c] w fun e w' => e = .returned (.bool true) ∧ Below w.heap.size w w' := by
  go_enter Try.func3, Try.ntmps3
  go_wp2_with (go_at_call 7; refine (bytes7_no _ _ _ _ h).mono ?_; rintro e w' ⟨rfl, rfl⟩)
  go_ret
  exact ⟨rfl, Below.refl _ _⟩

set_option maxHeartbeats 4000000 in
set_option maxRecDepth 100000 in
theorem law3_short (a0 : Option Addr) (n c0 : Nat) (z0 : List Int) (w : World) (hn : n ≤ 1048576) (w0 : IsRow .u8 w a0 n c0 z0) :
    Calls Try.prog 3 #[.slice a0 n c0] w fun e w' => e = .returned (.bool true) ∧ Below w.heap.size w w' := by
  obtain ⟨t, ht, htb, htc, htcopy⟩ := copy_arg (by omega) w0
  have HT : Hid (t.length = n) := ht
  have H1 := htcopy w (Below.refl _ _)
  clear ht htb htc htcopy w0
  go_enter Try.func3, Try.ntmps3
  go_wp2_with (first | (go_at_call 7; refine (bytes7_yes _ _ _ _ hn).mono ?_; rintro e w' ⟨rfl, rfl⟩))
  refine H1.mono ?_
  rintro e w1 ⟨p, c, rfl, hT1, hB1⟩
  clear H1
  go_wp2_with fail
  refine (escape_any p n c t true w1 hn hT1).mono ?_
  rintro e w2 ⟨q, m, d, rfl, hL2, hb2⟩
  have hT2 := hT1.later hb2
  have hB2 : Below w.heap.size w w2 := hB1.trans (hb2.mono hB1.size)
  have hm : m ≤ 2 * n + 1 := by rw [← hL2.1, ← HT.out]; exact escAt_length _ _
  clear hT1 hB1 hb2
  go_wp2_with fail
  refine (zzscan_any q m d _ w2 (by omega) hL2).mono ?_
  rintro e w3 ⟨pt, nt, ct, pd, nd, cd, T, D, rfl, hTD, hX3, hD3, hb3⟩
  have hsc := scan_line t [] (.inl rfl)
  rw [List.append_nil, List.append_nil] at hsc
  rw [hsc] at hTD
  obtain ⟨rfl, rfl⟩ := Prod.mk.inj hTD
  have hnt : nt = n := hX3.1.symm.trans HT.out
  have hnd : nd = 0 := hD3.1.symm
  subst hnt
  subst hnd
  have hT3 := hT2.later hb3
  have hL3 := hL2.later hb3
  have hB3 : Below w.heap.size w w3 := hB2.trans (hb3.mono hB2.size)
  clear hTD hsc hT2 hL2 hB2 hb3 hD3
  go_wp2_with fail
  refine (equal_same pt p nt ct c t w3 (by omega) hX3 hT3).mono ?_
  rintro e w4 ⟨rfl, hb4⟩
  have hT4 := hT3.later hb4
  have hL4 := hL3.later hb4
  have hB4 : Below w.heap.size w w4 := hB3.trans (hb4.mono hB3.size)
  clear hX3 hT3 hL3 hB3 hb4
  go_wp2_with fail
  refine (zzdef_none pt pd nt ct cd w4).mono ?_
  rintro e w5 ⟨rfl, rfl⟩
  go_wp2_with fail
  refine (zzdoc_no q m d _ w4 (by omega) hL4 (by have := noDoc_line t [] (.inl rfl); rw [List.append_nil] at this; exact this)).mono ?_
  rintro e w5 ⟨rfl, rfl⟩
  have kc := fun (w : World) (C : Array Value) (n c : Nat) => Lib.run_convert_bytes_const (P := Try.prog) w 22 5 C n c Try.underlying22 Try.underlying5
  go_wp2_with fail
  clear kc
  have hb5 : Below w4.heap.size w4 (w4.alloc (.cells #[.int .u8 10] 5 (1, 2))) := (Below.refl _ _).alloc (Nat.le_refl _) _
  have hS5 := const_txt w4 [10] 1 rfl (by intro x hx; simp at hx; omega) (1, 2)
  have hT5 := hT4.later hb5
  have hL5 := hL4.later hb5
  have hB5 : Below w.heap.size w (w4.alloc (.cells #[.int .u8 10] 5 (1, 2))) := hB4.trans (hb5.mono hB4.size)
  refine (join_any q _ m 1 d 1 _ [10] _ (by omega) hL5 hS5).mono ?_
  rintro e w6 ⟨g6, rfl, hL6, hb6⟩
  have hT6 := hT5.later hb6
  have hS6 := Txt.later hS5 hb6
  have hB6 : Below w.heap.size w w6 := hB5.trans (hb6.mono hB5.size)
  generalize w4.heap.size = g4 at hS6 ⊢
  clear hT4 hL4 hB4 hb5 hS5 hT5 hL5 hB5 hb6
  go_wp2_with fail
  refine (zzscan_any _ (m + 1) _ _ w6 (by omega) hL6).mono ?_
  rintro e w7 ⟨pt2, nt2, ct2, pd2, nd2, cd2, T2, D2, rfl, hTD2, hX7, hD7, hb7⟩
  rw [scan_line t [10] (.inr rfl)] at hTD2
  obtain ⟨rfl, rfl⟩ := Prod.mk.inj hTD2
  have hnt2 : nt2 = nt + 1 := by rw [← hX7.1, List.length_append, HT.out]; rfl
  have hnd2 : nd2 = 0 := hD7.1.symm
  subst hnt2
  subst hnd2
  have hT7 := hT6.later hb7
  have hS7 := hS6.later hb7
  have hL7 := hL6.later hb7
  have hB7 : Below w.heap.size w w7 := hB6.trans (hb7.mono hB6.size)
  clear hTD2 hT6 hS6 hL6 hB6 hb7 hD7
  go_wp2_with fail
  refine (join_any p _ nt 1 c 1 t [10] w7 (by omega) hT7 hS7).mono ?_
  rintro e w8 ⟨g8, rfl, hJ8, hb8⟩
  have hX8 := hX7.later hb8
  have hL8 := hL7.later hb8
  have hB8 : Below w.heap.size w w8 := hB7.trans (hb8.mono hB7.size)
  clear hT7 hS7 hX7 hL7 hB7 hb8
  go_wp2_with fail
  refine (equal_same pt2 _ (nt + 1) ct2 _ _ w8 (by omega) hX8 hJ8).mono ?_
  rintro e w9 ⟨rfl, hb9⟩
  have hL9 := hL8.later hb9
  have hB9 : Below w.heap.size w w9 := hB8.trans (hb9.mono hB8.size)
  clear hX8 hJ8 hL8 hB8 hb9
  go_wp2_with fail
  refine (zzdef_none pt2 pd2 (nt + 1) ct2 cd2 w9).mono ?_
  rintro e w10 ⟨rfl, rfl⟩
  go_wp2_with fail
  refine (zzdoc_no _ (m + 1) _ _ w9 (by omega) hL9 (noDoc_line t [10] (.inr rfl))).mono ?_
  rintro e w10 ⟨rfl, rfl⟩
  go_wp2
  go_ret
  exact ⟨rfl, hB9⟩

theorem law3 (a0 : Option Addr) (len0 cap0 : Nat) (z0 : List Int) (w : World) (w0 : IsRow .u8 w a0 len0 cap0 z0) :
    Calls Try.prog 3 #[.slice a0 len0 cap0] w fun e w' => e = .returned (.bool true) ∧ Below w.heap.size w w' := by
  by_cases h : 1048576 < len0
  · exact law3_long a0 len0 cap0 w h
  · exact law3_short a0 len0 cap0 z0 w (by omega) w0
end Go.Proofs.Qxb6003772a
