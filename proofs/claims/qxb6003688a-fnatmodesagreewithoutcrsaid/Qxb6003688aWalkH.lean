/-
  SEAT b6003688a: the law's walk.
-/
import Derived.Test.Qxb6003688aWalkG
namespace Go.Proofs.Qxb6003688a
open Go.RowKit Math

set_option maxHeartbeats 400000 in
theorem law5_long (a a' : Option Addr) (n c n' c' : Nat) (w : World) (h : 1048576 < n + n') : Calls Try.prog 5 #[.slice a n c, .slice a' n' c'] w fun e w' => e = .returned (.bool true) ∧ Below w.heap.size w w' := by
  go_enter Try.func5, Try.ntmps5
  go_wp2_with (go_at_call 16; refine (bytes16_no _ _ _ _ _ _ _ h).mono ?_; rintro e w' ⟨rfl, rfl⟩)
  go_ret
  exact ⟨rfl, Below.refl _ _⟩

set_option maxHeartbeats 400000 in
theorem law5_mid (a a' : Option Addr) (n c n' c' : Nat) (w : World) (h : n + n' ≤ 1048576) (h2 : 65536 < n ∨ 1024 < n') : Calls Try.prog 5 #[.slice a n c, .slice a' n' c'] w fun e w' => e = .returned (.bool true) ∧ Below w.heap.size w w' := by
  by_cases h3 : 65536 < n
  · have hd : decide ((65536 : Int) < (n : Int)) = true := decide_eq_true (by omega)
    go_enter Try.func5, Try.ntmps5
    go_wp2_with (go_at_call 16; refine (bytes16_yes _ _ _ _ _ _ _ h).mono ?_; rintro e w' ⟨rfl, rfl⟩)
    go_ret
    exact ⟨rfl, Below.refl _ _⟩
  · have hd : decide ((65536 : Int) < (n : Int)) = false := decide_eq_false (by omega)
    have hd2 : decide ((1024 : Int) < (n' : Int)) = true := decide_eq_true (by omega)
    have h4 : 1024 < n' := by omega
    clear h2
    go_enter Try.func5, Try.ntmps5
    go_wp2_with (go_at_call 16; refine (bytes16_yes _ _ _ _ _ _ _ h).mono ?_; rintro e w' ⟨rfl, rfl⟩)
    go_ret
    exact ⟨rfl, Below.refl _ _⟩

set_option maxHeartbeats 4000000 in
theorem law5_short (a0 : Option Addr) (n c0 : Nat) (z0 : List Int) (a1 : Option Addr) (kn c1 : Nat) (z1 : List Int) (mx : Int) (w : World) (hn : n ≤ 65536) (hk : kn ≤ 1024) (hmx : w.cell? ⟨0, 0, none⟩ = some (.int .i64 mx)) (w0 : IsRow .u8 w a0 n c0 z0) (w1 : IsRow .u32 w a1 kn c1 z1) :
    Calls Try.prog 5 #[.slice a0 n c0, .slice a1 kn c1] w fun e w' => e = .returned (.bool true) ∧ Below w.heap.size w w' := by
  obtain ⟨f, hf, hcf⟩ := src_view (by omega) w0
  obtain ⟨v, hcv⟩ := picks_view (by omega) w1
  have HF : Hid (0 < n → ∃ b o, a0 = some ⟨b, o, none⟩ ∧ ∀ j, j < n → w.cell? ⟨b, o + j, none⟩ = some (.int .u8 (f j))) := hf
  have H1 := hcf w (Below.refl _ _)
  have H2 : Hid (∀ W : World, Below w.heap.size w W → Calls Try.prog 14 #[.slice a1 kn c1] W fun e w' => ∃ p c', e = .returned (.slice p kn c') ∧ Win32 w' p kn v ∧ Below W.heap.size W w') := hcv
  have HMX : Hid (w.cell? ⟨0, 0, none⟩ = some (.int .i64 mx)) := hmx
  have hd : decide ((65536 : Int) < (n : Int)) = false := decide_eq_false (by omega)
  have hd2 : decide ((1024 : Int) < (kn : Int)) = false := decide_eq_false (by omega)
  clear hf hcf hcv hmx w0 w1
  go_enter Try.func5, Try.ntmps5
  go_wp2_with (go_at_call 16; refine (bytes16_yes _ _ _ _ _ _ _ (by omega)).mono ?_; rintro e w' ⟨rfl, rfl⟩)
  go_loopg [5] n (fun gk i wr => ∃ k : Nat, k ≤ n ∧ n - k = gk ∧ i = .int .i64 k ∧ Hid (∀ j, j < k → ¬ f j = 13) ∧ w = wr)
  case atStart => exact ⟨0, Nat.zero_le _, rfl, rfl, fun j hj => absurd hj (Nat.not_lt_zero _), rfl⟩
  case round =>
    obtain ⟨k, hkn, rfl, rfl, HNO, rfl⟩ := hrel
    by_cases hlt : k < n
    · obtain ⟨b, o, rfl, hc⟩ := HF.out (by omega)
      have hz : (k : Int) < (n : Int) := by omega
      have hcell := hc k hlt
      clear hc HF
      by_cases h13 : f k = 13
      · have ht : (f k == 13) = true := beq_iff_eq.2 h13
        clear h13 HNO H1 H2 HMX
        go_wp2
        go_ret
        exact ⟨rfl, Below.refl _ _⟩
      · have ht : (f k == 13) = false := beq_eq_false_iff_ne.2 h13
        have HN2 : Hid (∀ j, j < k + 1 → ¬ f j = 13) := fun j hj => by
          by_cases e : j = k
          · subst e; exact h13
          · exact HNO.out j (by omega)
        clear h13 HNO H1 H2 HMX
        go_wp2
        go_roundg (n - (k + 1))
        case measure => go_light; omega
        case rel => exact ⟨k + 1, by omega, rfl, by go_num, HN2, rfl⟩
    have : k = n := by omega
    subst this
    clear hlt hkn HF
    go_wp2_with fail
    refine H1.mono ?_
    rintro e w1 ⟨p, c, rfl, hW1, hb1⟩
    go_wp2_with fail
    refine (H2.out w1 hb1).mono ?_
    rintro e w2 ⟨pq, cq, rfl, hP2, hb2⟩
    have hW2 := hW1.later hb2
    have hB2 : Below w.heap.size w w2 := hb1.trans (hb2.mono hb1.size)
    clear hW1 hb1 hb2 H1 H2
    go_wp2_with fail
    refine (new_any p k c 0 w2).mono ?_
    rintro e w3 ⟨rfl, hb3, hs3, hC3⟩
    have hW3 := hW2.later hb3
    have hP3 := hP2.later hb3
    have hB3 : Below w.heap.size w w3 := hB2.trans (hb3.mono hB2.size)
    go_wp2_with fail
    refine (new_any p k c 1 w3).mono ?_
    rintro e w4 ⟨rfl, hb4, hs4, hC4⟩
    have hlt0 : 0 < w.heap.size := block_lt_of_cell HMX.out
    have I : Inv w w4 w2.heap.size w3.heap.size p k c f pq kn v mx 0 0 0 0 0 0 :=
      { ctr1 := (hb4.block _ hC3.lt).trans hC3, ctr2 := hC4, src := hW3.later hb4, picks := hP3.later hb4,
        glob := by rw [hb4.cell (p := ⟨0, 0, none⟩) (Nat.lt_of_lt_of_le hlt0 hB3.size), hB3.cell (p := ⟨0, 0, none⟩) hlt0]; exact HMX.out
        below := hB3.trans (hb4.mono hB3.size), pos := hlt0, ge1 := hB2.size, ge2 := hB3.size, ne := by omega }
    have hg1 : 0 < w2.heap.size := Nat.lt_of_lt_of_le hlt0 hB2.size
    have hg2 : 0 < w3.heap.size := Nat.lt_of_lt_of_le hlt0 hB3.size
    generalize w2.heap.size = C1 at *
    generalize w3.heap.size = C2 at *
    clear hW2 hP2 hB2 hb3 hs3 hC3 hW3 hP3 hB3 hb4 hs4 hC4 HMX hlt0
    go_wp2
    go_loopg [9] kn (fun gk i wr => ∃ t off line col : Nat, t ≤ kn ∧ kn - t = gk ∧ i = .int .i64 t ∧ off ≤ k ∧ line ≤ off ∧ col ≤ off ∧ Inv w wr C1 C2 p k c f pq kn v mx off line col off line col)
    case atStart => exact ⟨0, 0, 0, 0, Nat.zero_le _, rfl, rfl, Nat.zero_le _, Nat.le_refl _, Nat.le_refl _, I⟩
    case round =>
      clear I
      obtain ⟨t, off, line, col, htn, rfl, rfl, hof, hli, hco, I⟩ := hrel
      by_cases htk : t < kn
      · obtain ⟨hvb, hp3⟩ := I.picks
        obtain ⟨b, rfl, hbl, hcell⟩ := hp3 (by omega)
        have hcel := hcell t htk
        have hvt := hvb t htk
        have hz : (t : Int) < (kn : Int) := by omega
        obtain ⟨x, hx⟩ : ∃ x, v t = x := ⟨_, rfl⟩
        rw [hx] at hcel hvt
        have hxk : 0 ≤ x % ((k : Int) + 1) ∧ x % ((k : Int) + 1) < (k : Int) + 1 := ⟨Int.emod_nonneg _ (by omega), Int.emod_lt_of_pos _ (by omega)⟩
        obtain ⟨o, ho⟩ : ∃ o : Nat, x % ((k : Int) + 1) = o := ⟨(x % ((k : Int) + 1)).toNat, (Int.toNat_of_nonneg hxk.1).symm⟩
        rw [ho] at hxk
        obtain ⟨l1, HL1⟩ : ∃ l1, Hid (stepL f off line o = l1) := ⟨_, rfl⟩
        obtain ⟨k1, HK1⟩ : ∃ k1, Hid (stepC f off col o = k1) := ⟨_, rfl⟩
        have hl1 : l1 ≤ o := by rw [← HL1.out]; exact stepL_le f off line o hli
        have hk1 : k1 ≤ o := by rw [← HK1.out]; exact stepC_le f off col o hco
        have hok : o ≤ k := by omega
        clear hvb hp3 hcell hx
        go_wp2_with fail
        refine (at_step 0 C1 p k c off line col o l1 k1 f mx wr (.inl rfl) hn hok hof hli hco I.ctr1 hg1 I.glob I.src HNO.out HL1 HK1).mono ?_
        rintro e w5 ⟨rfl, hC5, hG5⟩
        have I5 := I.step1 hC5 hG5
        clear hC5 hG5 hcel
        go_wp2_with fail
        refine (at_step 1 C2 p k c off line col o l1 k1 f mx w5 (.inr rfl) hn hok hof hli hco I5.ctr2 hg2 I5.glob I5.src HNO.out HL1 HK1).mono ?_
        rintro e w6 ⟨rfl, hC6, hG6⟩
        have I6 := I5.step2 hC6 hG6
        clear hC6 hG6
        have hb1 : ((l1 : Int) + 1 != (l1 : Int) + 1) = false := by simp
        have hb2 : ((k1 : Int) + 1 != (k1 : Int) + 1) = false := by simp
        go_wp2
        go_roundg (kn - (t + 1))
        case measure => go_light; omega
        case rel => exact ⟨t + 1, o, l1, k1, by omega, rfl, by go_num, hok, hl1, hk1, I6⟩
      · go_wp2
        go_ret
        exact ⟨rfl, I.below⟩

theorem law5 (a0 : Option Addr) (len0 cap0 : Nat) (z0 : List Int) (a1 : Option Addr) (len1 cap1 : Nat) (z1 : List Int) (mx : Int) (w : World) (hmx : w.cell? ⟨0, 0, none⟩ = some (.int .i64 mx)) (w0 : IsRow .u8 w a0 len0 cap0 z0) (w1 : IsRow .u32 w a1 len1 cap1 z1) :
    Calls Try.prog 5 #[.slice a0 len0 cap0, .slice a1 len1 cap1] w fun e w' => e = .returned (.bool true) ∧ Below w.heap.size w w' := by
  by_cases h : 1048576 < len0 + len1
  · exact law5_long a0 a1 len0 cap0 len1 cap1 w h
  · by_cases h2 : 65536 < len0 ∨ 1024 < len1
    · exact law5_mid a0 a1 len0 cap0 len1 cap1 w (by omega) h2
    · exact law5_short a0 len0 cap0 z0 a1 len1 cap1 z1 mx w (by omega) (by omega) hmx w0 w1
end Go.Proofs.Qxb6003688a
