/-
  SEAT b6003633a: recordsEnd at a nil slice; its export; the first law's walk.
-/
import Derived.Test.Qxb6003633aWalkC
namespace Go.Proofs.Qxb6003633a
open Go.RowKit Math

set_option maxHeartbeats 400000 in
theorem last48_nil (w : World) : Calls Try.prog 48 #[.slice none 0 0, .int .u8 10] w fun e w' => e = .returned (.int .i64 (-1)) ∧ w = w' := by
  go_enter Try.func48, Try.ntmps48
  go_wp2
  refine wp_loop_rounds 1 ?_
  rw [rounds_succ]
  go_wp2
  go_ret
  exact ⟨rfl, rfl⟩

set_option maxHeartbeats 400000 in
theorem last44_nil (w : World) : Calls Try.prog 44 #[.slice none 0 0, .int .u8 10] w fun e w' => e = .returned (.int .i64 (-1)) ∧ w = w' := by
  go_enter Try.func44, Try.ntmps44
  go_wp2_with (go_at_call 48; refine (last48_nil _).mono ?_; rintro e w' ⟨rfl, rfl⟩)
  go_ret
  exact ⟨rfl, rfl⟩

set_option maxHeartbeats 400000 in
theorem recordsEnd_nil (w : World) : Calls Try.prog 41 #[.slice none 0 0] w fun e w' => e = .returned (.int .i64 0) ∧ Below w.heap.size w w' := by
  have h0 := count_nil w.heap.size 0 1 34 (w.alloc (.cells #[.int .u8 34] 5)) (by rw [World.cell?_alloc_at _ _ _ _ rfl]; rfl)
  go_enter Try.func41, Try.ntmps41
  go_wp2_with (go_at_call 43; refine h0.mono ?_; rintro e w' ⟨rfl, rfl⟩)
  refine wp_loop_rounds 1 ?_
  rw [rounds_succ]
  go_wp2_with (go_at_call 44; refine (last44_nil _).mono ?_; rintro e w' ⟨rfl, rfl⟩)
  go_ret
  exact ⟨rfl, (Below.refl _ _).alloc (Nat.le_refl _) _⟩

set_option maxHeartbeats 400000 in
theorem export_nil (w : World) : Calls Try.prog 11 #[.slice none 0 0] w fun e w' => e = .returned (.int .i64 0) ∧ Below w.heap.size w w' := by
  go_enter Try.func11, Try.ntmps11
  go_wp2_with (go_at_call 41; refine (recordsEnd_nil _).mono ?_; rintro e w' ⟨rfl, hb⟩)
  go_ret
  exact ⟨rfl, hb⟩

set_option maxHeartbeats 400000 in
theorem export_at (b o n c : Nat) (f : Nat → Int) (w : World) (hn : n ≤ 1048577) (hnc : n ≤ c) (hb : b < w.heap.size) (hw : ∀ j, j < n → 0 ≤ f j ∧ f j < 256) (hc : ∀ j, j < n → w.cell? ⟨b, o + j, none⟩ = some (.int .u8 (f j))) :
    Calls Try.prog 11 #[.slice (some ⟨b, o, none⟩) n c] w fun e w' => e = .returned (.int .i64 (best f n)) ∧ Below w.heap.size w w' := by
  have h := recordsEnd_at b o n c f w hn hnc hb hw hc
  clear hw hc
  go_enter Try.func11, Try.ntmps11
  go_wp2_with (go_at_call 41; refine h.mono ?_; rintro e w' ⟨rfl, hb⟩)
  go_ret
  exact ⟨rfl, hb⟩

/-! ### The first law -/
set_option maxHeartbeats 400000 in
theorem law3_long (a : Option Addr) (n c : Nat) (w : World) (h : 1048576 < n) : Calls Try.prog 3 #[.slice a n c] w fun e w' => e = .returned (.bool true) ∧ Below w.heap.size w w' := by
  go_enter Try.func3, Try.ntmps3
  go_wp2_with (go_at_call 9; refine (bytes9_no _ _ _ _ h).mono ?_; rintro e w' ⟨rfl, rfl⟩)
  go_ret
  exact ⟨rfl, Below.refl _ _⟩

set_option maxHeartbeats 400000 in
theorem law3_nil (w : World) : Calls Try.prog 3 #[.slice none 0 0] w fun e w' => e = .returned (.bool true) ∧ Below w.heap.size w w' := by
  go_enter Try.func3, Try.ntmps3
  go_wp2_with (first | (go_at_call 9; refine (bytes9_yes _ _ _ _ (by omega)).mono ?_; rintro e w' ⟨rfl, rfl⟩) | (go_at_call 10; refine (clone_nil _).mono ?_; rintro e w' ⟨rfl, rfl⟩) | (go_at_call 11; refine (export_nil _).mono ?_; rintro e w1 ⟨rfl, hb1⟩))
  refine wp_loop_rounds 1 ?_
  rw [rounds_succ]
  go_wp2
  go_ret
  exact ⟨rfl, hb1⟩

set_option maxHeartbeats 1000000 in
theorem law3_some (x : Addr) (b o n c : Nat) (f : Nat → Int) (w : World) (hn : n ≤ 1048576) (hx : 0 < n → x = ⟨b, o, none⟩ ∧ b < w.heap.size) (hc : ∀ i, i < n → w.cell? ⟨b, o + i, none⟩ = some (.int .u8 (f i))) (hw : ∀ i, i < n → 0 ≤ f i ∧ f i < 256) :
    Calls Try.prog 3 #[.slice (some x) n c] w fun e w' => e = .returned (.bool true) ∧ Below w.heap.size w w' := by
  have hcl := clone_some x b o n c f w hn hx hc
  clear hx hc
  have HW : Hid (∀ i, i < n → 0 ≤ f i ∧ f i < 256) := hw
  clear hw
  go_enter Try.func3, Try.ntmps3
  go_wp2_with (first | (go_at_call 9; refine (bytes9_yes _ _ _ _ hn).mono ?_; rintro e w' ⟨rfl, rfl⟩) | (go_at_call 11; fail) | (go_at_call 10; refine hcl.mono ?_; rintro e w1 ⟨rfl, hC⟩))
  have hrow : ∀ j, j < n → w1.cell? ⟨w.heap.size, 0 + j, none⟩ = some (.int .u8 (f j)) := fun j hj => by rw [Nat.zero_add, hC.row.cell hj, if_pos hj]
  have hex := export_at w.heap.size 0 n n f w1 (by omega) (Nat.le_refl _) (by have := hC.size; omega) HW.out hrow
  refine hex.mono ?_
  rintro e w2 ⟨rfl, hb2⟩
  have hlt : w.heap.size < w1.heap.size := by have := hC.size; omega
  have hrow2 : ∀ j, j < n → w2.cell? ⟨w.heap.size, j, none⟩ = some (.int .u8 (f j)) := fun j hj => by
    rw [hb2.cell (p := ⟨w.heap.size, j, none⟩) hlt, ← hrow j hj, Nat.zero_add]
  have hB : Below w.heap.size w w2 := hC.below.trans (hb2.mono (by omega))
  clear hex hrow hcl HW hC hb2
  go_wp2
  go_loopg [4, 5, 6] n (fun g q bs i wr => ∃ k : Nat, k ≤ n ∧ n - k = g ∧ q = .int .i64 (qc f k) ∧ bs = .int .i64 (best f k) ∧ i = .int .i64 k ∧ w2 = wr)
  case atStart => exact ⟨0, Nat.zero_le _, rfl, rfl, rfl, rfl, rfl⟩
  case round =>
    obtain ⟨k, hk, rfl, rfl, rfl, rfl, rfl⟩ := hrel
    have hq := qc_le f k
    by_cases hkn : k < n
    · have hz : (k : Int) < (n : Int) := by omega
      have hcell := hrow2 k hkn
      clear hrow2
      by_cases h34 : f k = 34
      · have e1 : (f k == 34) = true := beq_iff_eq.2 h34
        have HQ : Hid (qc f (k + 1) = qc f k + 1) := qc_hit f k h34
        have HB : Hid (best f (k + 1) = best f k) := best_no f k (by omega)
        clear h34
        go_wp2
        go_roundg (n - (k + 1))
        case measure => go_light; omega
        case rel => exact ⟨k + 1, by omega, rfl, by rw [HQ.out]; go_num, by rw [HB.out], by go_num, rfl⟩
      · have e1 : (f k == 34) = false := beq_eq_false_iff_ne.2 h34
        have HQ : Hid (qc f (k + 1) = qc f k) := qc_no f k h34
        clear h34
        by_cases h10 : f k = 10
        · have e2 : (f k == 10) = true := beq_iff_eq.2 h10
          by_cases hev : qc f k % 2 = 0
          · have e3 : ((qc f k : Int) % 2 == 0) = true := beq_iff_eq.2 (by omega)
            have HB : Hid (best f (k + 1) = k + 1) := best_hit f k h10 hev
            clear h10 hev
            go_wp2
            go_roundg (n - (k + 1))
            case measure => go_light; omega
            case rel => exact ⟨k + 1, by omega, rfl, by rw [HQ.out], by rw [HB.out]; go_num, by go_num, rfl⟩
          · have e3 : ((qc f k : Int) % 2 == 0) = false := beq_eq_false_iff_ne.2 (by omega)
            have HB : Hid (best f (k + 1) = best f k) := best_odd f k hev
            clear h10 hev
            go_wp2
            go_roundg (n - (k + 1))
            case measure => go_light; omega
            case rel => exact ⟨k + 1, by omega, rfl, by rw [HQ.out], by rw [HB.out], by go_num, rfl⟩
        · have e2 : (f k == 10) = false := beq_eq_false_iff_ne.2 h10
          have HB : Hid (best f (k + 1) = best f k) := best_no f k h10
          clear h10
          go_wp2
          go_roundg (n - (k + 1))
          case measure => go_light; omega
          case rel => exact ⟨k + 1, by omega, rfl, by rw [HQ.out], by rw [HB.out], by go_num, rfl⟩
    · have : k = n := by omega
      subst this
      go_wp2
      go_ret
      exact ⟨by simp, hB⟩

theorem law3 (a0 : Option Addr) (len0 cap0 : Nat) (z0 : List Int) (w : World) (w0 : IsRow .u8 w a0 len0 cap0 z0) :
    Calls Try.prog 3 #[.slice a0 len0 cap0] w fun e w' => e = .returned (.bool true) ∧ Below w.heap.size w w' := by
  by_cases h : 1048576 < len0
  · exact law3_long a0 len0 cap0 w h
  · rcases view_bytes w0 with ⟨rfl, rfl, rfl⟩ | ⟨x, b, o, f, rfl, hx, hc, hw⟩
    · exact law3_nil w
    · exact law3_some x b o len0 cap0 f w (by omega) hx hc hw
end Go.Proofs.Qxb6003633a
