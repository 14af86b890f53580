/-
  SEAT b6003633a: the second law's walk.
-/
import Derived.Test.Qxb6003633aWalkE
namespace Go.Proofs.Qxb6003633a
open Go.RowKit Math

set_option maxHeartbeats 400000 in
theorem law4_long (a a' : Option Addr) (n c n' c' : Nat) (w : World) (h : 1048576 < n + n') : Calls Try.prog 4 #[.slice a n c, .slice a' n' c'] w fun e w' => e = .returned (.bool true) ∧ Below w.heap.size w w' := by
  go_enter Try.func4, Try.ntmps4
  go_wp2_with (go_at_call 12; refine (bytes12_no _ _ _ _ _ _ _ h).mono ?_; rintro e w' ⟨rfl, rfl⟩)
  go_ret
  exact ⟨rfl, Below.refl _ _⟩

set_option maxHeartbeats 4000000 in
theorem law4_short (a0 : Option Addr) (n c0 : Nat) (z0 : List Int) (a1 : Option Addr) (m c1 : Nat) (z1 : List Int) (w : World) (hnm : n + m ≤ 1048576) (w0 : IsRow .u8 w a0 n c0 z0) (w1 : IsRow .u8 w a1 m c1 z1) :
    Calls Try.prog 4 #[.slice a0 n c0, .slice a1 m c1] w fun e w' => e = .returned (.bool true) ∧ Below w.heap.size w w' := by
  obtain ⟨f, hf, hcf⟩ := clone_own a0 n c0 z0 w (by omega) w0
  obtain ⟨g, hg, hcg⟩ := clone_own a1 m c1 z1 w (by omega) w1
  have HF : Hid (∀ j, j < n → 0 ≤ f j ∧ f j < 256) := hf
  have HG : Hid (∀ j, j < m → 0 ≤ g j ∧ g j < 256) := hg
  have H1 := hcf w (Below.refl _ _)
  have HCG : Hid (∀ W : World, Below w.heap.size w W → Calls Try.prog 10 #[.slice a1 m c1] W fun e w' => ∃ p c, e = .returned (.slice p m c) ∧ Own w' p m c g ∧ Below W.heap.size W w') := hcg
  clear hf hg hcf hcg w0 w1
  go_enter Try.func4, Try.ntmps4
  go_wp2_with (go_at_call 12; refine (bytes12_yes _ _ _ _ _ _ _ hnm).mono ?_; rintro e w' ⟨rfl, rfl⟩)
  refine H1.mono ?_
  rintro e w1 ⟨p, c, rfl, hO1, hb1⟩
  go_wp2_with fail
  refine (HCG.out w1 hb1).mono ?_
  rintro e w2 ⟨p', c', rfl, hO2, hb2⟩
  have hO1 := hO1.later hb2
  have hB : Below w.heap.size w w2 := hb1.trans (hb2.mono hb1.size)
  clear hb1 hb2 HCG H1
  go_wp2_with fail
  obtain ⟨R, HR⟩ : ∃ R, Hid (best f n = R) := ⟨_, rfl⟩
  have hRn : R ≤ n := by rw [← HR.out]; exact best_le f n
  refine (export_own p n c R f w2 (by omega) HR HF.out hO1).mono ?_
  rintro e w3 ⟨rfl, hb3⟩
  have hO1 := hO1.later hb3
  have hO2 := hO2.later hb3
  have hB : Below w.heap.size w w3 := hB.trans (hb3.mono hB.size)
  clear hb3
  have hd : decide ((R : Int) < 0) = false := decide_eq_false (by omega)
  have hsl := fun W => slice_own hO1 R hRn W
  go_wp2_with fail
  refine (export_own p R c R f w3 (by omega) (by show best f R = R; rw [← HR.out]; exact best_best f n) (fun j hj => HF.out j (by omega)) (hO1.upto R hRn)).mono ?_
  rintro e w4 ⟨rfl, hb4⟩
  have hO1 := hO1.later hb4
  have hO2 := hO2.later hb4
  have hB : Below w.heap.size w w4 := hB.trans (hb4.mono hB.size)
  clear hb4 hsl hd
  have hmk := run_make_row' (P := Try.prog) 22 5 (.int .u8 0) 1 Try.underlying22 info5 rfl .i64 .i64 (n + m) (by omega) (by omega)
  rw [show ((n + m : Nat) : Int) = (n : Int) + (m : Int) from by omega] at hmk
  go_wp2
  clear hmk
  go_loopg [7] n (fun gk i wr => ∃ k : Nat, k ≤ n ∧ n - k = gk ∧ i = .int .i64 k ∧ Cloned w4 wr (n + m) k (joinF n f g))
  case atStart => exact ⟨0, Nat.zero_le _, rfl, rfl, cloned_start w4 (n + m) _⟩
  case round =>
    obtain ⟨k, hk, rfl, rfl, hC⟩ := hrel
    by_cases hkn : k < n
    · obtain ⟨B, rfl, hBlt, hcB⟩ := hO1.at k hkn
      have hz : (k : Int) < (n : Int) := by omega
      have hz2 : (k : Int) < (n : Int) + (m : Int) := by omega
      have g0 : wr.cell? ⟨B, k, none⟩ = some (.int .u8 (f k)) := by rw [hC.below.cell (p := ⟨B, k, none⟩) hBlt]; exact hcB
      have g1 := hC.row.cell (i := k) (by omega)
      have g2 := hC.row.frozen k
      clear hcB hO1 hO2
      go_wp2
      go_roundg (n - (k + 1))
      case measure => go_light; omega
      case rel => exact ⟨k + 1, by omega, rfl, by go_num, cloned_step' hC _ (joinF_lo n f g k hkn)⟩
    have : k = n := by omega
    subst this
    clear hkn hk
    go_wp2
    go_loopg [8] m (fun gk i wr => ∃ j : Nat, j ≤ m ∧ m - j = gk ∧ i = .int .i64 j ∧ Cloned w4 wr (k + m) (k + j) (joinF k f g))
    case atStart => exact ⟨0, Nat.zero_le _, rfl, rfl, hC⟩
    case round =>
      clear hC
      obtain ⟨j, hj, rfl, rfl, hC⟩ := hrel
      by_cases hjm : j < m
      · obtain ⟨B, rfl, hBlt, hcB⟩ := hO2.at j hjm
        have hz : (j : Int) < (m : Int) := by omega
        have hz2 : (k : Int) + (j : Int) < (k : Int) + (m : Int) := by omega
        have g0 : wr.cell? ⟨B, j, none⟩ = some (.int .u8 (g j)) := by rw [hC.below.cell (p := ⟨B, j, none⟩) hBlt]; exact hcB
        have g1 := hC.row.cell (i := k + j) (by omega)
        have g2 := hC.row.frozen (k + j)
        clear hcB hO1 hO2
        go_wp2
        go_roundg (m - (j + 1))
        case measure => go_light; omega
        case rel => exact ⟨j + 1, by omega, rfl, by go_num, cloned_step' hC _ (joinF_hi k f g j)⟩
      have : j = m := by omega
      subst this
      clear hjm hj
      obtain ⟨V, HV⟩ : ∃ V, Hid (best (joinF k f g) (k + j) = V) := ⟨_, rfl⟩
      have hRV : R ≤ V := by rw [← HV.out, ← HR.out]; exact best_join k j f g
      have hVn : V ≤ k + j := by rw [← HV.out]; exact best_le _ _
      have hO1 := hO1.later hC.below
      have hB : Below w.heap.size w wr := hB.trans (hC.below.mono hB.size)
      have hO3 := cloned_own hC
      clear hC hO2
      go_wp2_with fail
      refine (export_own _ (k + j) (k + j) V (joinF k f g) wr (by omega) HV (bytes_join k j f g HF.out HG.out) hO3).mono ?_
      rintro e w5 ⟨rfl, hb5⟩
      have hO1 := hO1.later hb5
      have hB : Below w.heap.size w w5 := hB.trans (hb5.mono hB.size)
      clear hb5 hO3 HV HG
      go_wp2
      go_loopg [9, 10] k (fun gk q i wr => ∃ t : Nat, t ≤ k ∧ k - t = gk ∧ q = .int .i64 (qc f t) ∧ i = .int .i64 t ∧ w5 = wr)
      case atStart => exact ⟨0, Nat.zero_le _, rfl, rfl, rfl, rfl⟩
      case round =>
        obtain ⟨t, ht, rfl, rfl, rfl, rfl⟩ := hrel
        have hqt := qc_le f t
        by_cases htk : t < k
        · obtain ⟨B, rfl, hBlt, hcB⟩ := hO1.at t htk
          have hz : (t : Int) < (k : Int) := by omega
          clear hO1
          by_cases h34 : f t = 34
          · have e1 : (f t == 34) = true := beq_iff_eq.2 h34
            have HQ : Hid (qc f (t + 1) = qc f t + 1) := qc_hit f t h34
            clear h34
            go_wp2
            go_roundg (k - (t + 1))
            case measure => go_light; omega
            case rel => exact ⟨t + 1, by omega, rfl, by rw [HQ.out]; go_num, by go_num, rfl⟩
          · have e1 : (f t == 34) = false := beq_eq_false_iff_ne.2 h34
            have HQ : Hid (qc f (t + 1) = qc f t) := qc_no f t h34
            clear h34
            go_wp2
            go_roundg (k - (t + 1))
            case measure => go_light; omega
            case rel => exact ⟨t + 1, by omega, rfl, by rw [HQ.out], by go_num, rfl⟩
        have : t = k := by omega
        subst this
        clear htk ht
        have hmk := run_make_row' (P := Try.prog) 22 5 (.int .u8 0) 1 Try.underlying22 info5 rfl .i64 .i64 (t + 1) (by omega) (by omega)
        rw [show ((t + 1 : Nat) : Int) = (t : Int) + 1 from by omega] at hmk
        go_wp2
        clear hmk
        go_loopg [12] t (fun gk i wr => ∃ u : Nat, u ≤ t ∧ t - u = gk ∧ i = .int .i64 u ∧ Cloned w5 wr (t + 1) u (joinF t f (fun _ => 10)))
        case atStart => exact ⟨0, Nat.zero_le _, rfl, rfl, cloned_start w5 (t + 1) _⟩
        case round =>
          obtain ⟨u, hu, rfl, rfl, hC⟩ := hrel
          by_cases hut : u < t
          · obtain ⟨B, rfl, hBlt, hcB⟩ := hO1.at u hut
            have hz : (u : Int) < (t : Int) := by omega
            have hz2 : (u : Int) < (t : Int) + 1 := by omega
            have g0 : wr.cell? ⟨B, u, none⟩ = some (.int .u8 (f u)) := by rw [hC.below.cell (p := ⟨B, u, none⟩) hBlt]; exact hcB
            have g1 := hC.row.cell (i := u) (by omega)
            have g2 := hC.row.frozen u
            clear hcB hO1
            go_wp2
            go_roundg (t - (u + 1))
            case measure => go_light; omega
            case rel => exact ⟨u + 1, by omega, rfl, by go_num, cloned_step' hC _ (joinF_lo t f _ u hut)⟩
          have : u = t := by omega
          subst this
          clear hut hu
          have g1 := hC.row.cell (i := u) (by omega)
          have g2 := hC.row.frozen u
          have hC' := cloned_step' hC 10 (by have := joinF_hi u f (fun _ => 10) 0; rw [Nat.add_zero] at this; exact this)
          have hO4 := cloned_own hC'
          have hB : Below w.heap.size w (wr.setCell ⟨w5.heap.size, u, none⟩ (.int .u8 10)) := hB.trans (hC'.below.mono hB.size)
          have hbj := bytes_join u 1 f (fun _ => 10) HF.out (fun _ _ => ⟨by omega, by omega⟩)
          by_cases hev : qc f u % 2 = 0
          · have e3 : ((qc f u : Int) % 2 == 0) = true := beq_iff_eq.2 (by omega)
            have hx := export_own _ (u + 1) (u + 1) (u + 1) (joinF u f (fun _ => 10)) (wr.setCell ⟨w5.heap.size, u, none⟩ (.int .u8 10)) (by omega) (best_break_even u f hev) hbj hO4
            clear hbj hO4 hev hC hC' hO1
            go_wp2_with fail
            refine hx.mono ?_
            rintro e w6 ⟨rfl, hb6⟩
            clear hx
            go_wp2
            go_ret
            exact ⟨by simp, hB.trans (hb6.mono hB.size)⟩
          · have e3 : ((qc f u : Int) % 2 == 0) = false := beq_eq_false_iff_ne.2 (by omega)
            have hx := export_own _ (u + 1) (u + 1) R (joinF u f (fun _ => 10)) (wr.setCell ⟨w5.heap.size, u, none⟩ (.int .u8 10)) (by omega) ((best_break_odd u f hev).trans HR.out) hbj hO4
            clear hbj hO4 hev hC hC' hO1
            go_wp2_with fail
            refine hx.mono ?_
            rintro e w6 ⟨rfl, hb6⟩
            clear hx
            go_wp2
            go_ret
            exact ⟨by simp, hB.trans (hb6.mono hB.size)⟩

theorem law4 (a0 : Option Addr) (len0 cap0 : Nat) (z0 : List Int) (a1 : Option Addr) (len1 cap1 : Nat) (z1 : List Int) (w : World) (w0 : IsRow .u8 w a0 len0 cap0 z0) (w1 : IsRow .u8 w a1 len1 cap1 z1) :
    Calls Try.prog 4 #[.slice a0 len0 cap0, .slice a1 len1 cap1] w fun e w' => e = .returned (.bool true) ∧ Below w.heap.size w w' := by
  by_cases h : 1048576 < len0 + len1
  · exact law4_long a0 a1 len0 cap0 len1 cap1 w h
  · exact law4_short a0 len0 cap0 z0 a1 len1 cap1 z1 w (by omega) w0 w1
end Go.Proofs.Qxb6003633a
