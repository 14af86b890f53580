/-
  SEAT b6003633a: recordsEnd computes 'best'.
-/
import Derived.Test.Qxb6003633aWalkB
namespace Go.Proofs.Qxb6003633a
open Go.RowKit Math

set_option maxHeartbeats 400000 in
theorem last44 (b o n c : Nat) (f : Nat → Int) (v : Int) (w : World) (hn : n ≤ 1048577) (hv : Hid (lastBreak f n = v)) (hc : ∀ j, j < n → w.cell? ⟨b, o + j, none⟩ = some (.int .u8 (f j))) :
    Calls Try.prog 44 #[.slice (some ⟨b, o, none⟩) n c, .int .u8 10] w fun e w' => e = .returned (.int .i64 v) ∧ w = w' := by
  have h := last_at b o n c f w hn hc
  rw [hv.out] at h
  clear hc
  go_enter Try.func44, Try.ntmps44
  go_wp2_with (go_at_call 48; refine h.mono ?_; rintro e w' ⟨rfl, rfl⟩)
  go_ret
  exact ⟨rfl, rfl⟩

theorem count_part' (b o i m c : Nat) (f : Nat → Int) (v : Int) (w : World) (hb : b < w.heap.size) (hv : (qc f (i + m) : Int) - qc f i = v) (hw : ∀ j, j < i + m → 0 ≤ f j ∧ f j < 256) (hc : ∀ j, j < i + m → w.cell? ⟨b, o + j, none⟩ = some (.int .u8 (f j))) :
    Calls Try.prog 43 #[.slice (some ⟨b, o + i, none⟩) m c, .slice (some ⟨w.heap.size, 0, none⟩) 1 1] (w.alloc (.cells #[.int .u8 34] 5)) fun e' w' => e' = .returned (.int .i64 v) ∧ w' = w.alloc (.cells #[.int .u8 34] 5) := by
  have h := count_part b o i m c f w hb hw hc
  rw [hv] at h
  exact h

set_option maxHeartbeats 1000000 in
theorem recordsEnd_at (b o n c : Nat) (f : Nat → Int) (w : World) (hn : n ≤ 1048577) (hnc : n ≤ c) (hb : b < w.heap.size) (hw : ∀ j, j < n → 0 ≤ f j ∧ f j < 256) (hc : ∀ j, j < n → w.cell? ⟨b, o + j, none⟩ = some (.int .u8 (f j))) :
    Calls Try.prog 41 #[.slice (some ⟨b, o, none⟩) n c] w fun e w' => e = .returned (.int .i64 (best f n)) ∧ Below w.heap.size w w' := by
  have h0 := count_part' b o 0 n c f (qc f n) w hb (by simp [qc]) (by simpa using hw) (by simpa using hc)
  go_enter Try.func41, Try.ntmps41
  go_wp2_with (go_at_call 43; refine h0.mono ?_; rintro e w' ⟨rfl, rfl⟩)
  clear h0
  go_loopg [3, 4] n (fun g q en wr => ∃ e : Nat, e ≤ n ∧ e = g ∧ q = .int .i64 (qc f e) ∧ en = .int .i64 e ∧ Hid (best f n = best f e) ∧ Below w.heap.size w wr)
  case atStart => exact ⟨n, Nat.le_refl _, rfl, rfl, rfl, rfl, (Below.refl _ _).alloc (Nat.le_refl _) _⟩
  case round =>
    obtain ⟨e, he, rfl, rfl, rfl, HB, hbel⟩ := hrel
    have hbr : b < wr.heap.size := Nat.lt_of_lt_of_le hb hbel.size
    have hcr : ∀ j, j < n → wr.cell? ⟨b, o + j, none⟩ = some (.int .u8 (f j)) := fun j hj => by rw [hbel.cell (p := ⟨b, o + j, none⟩) hb]; exact hc j hj
    have hec : e ≤ c := by omega
    rcases lastBreak_spec f e with ⟨hL, hno⟩ | ⟨i, hi, hL, h10, hno⟩
    · have h1 := last44 b o e c f (-1) wr (by omega) hL (fun j hj => hcr j (by omega))
      have HR : Hid (best f n = 0) := HB.out.trans (back_none f e hno)
      clear hcr hc hw hL hno HB
      go_wp2_with (go_at_call 44; refine h1.mono ?_; rintro e w' ⟨rfl, rfl⟩)
      go_ret
      exact ⟨ret_int (by rw [HR.out]; rfl), hbel⟩
    · have h1 := last44 b o e c f i wr (by omega) hL (fun j hj => hcr j (by omega))
      have h2 := count_part' b o i (e - i) (c - i) f ((qc f e : Int) - qc f i) wr hbr (by rw [show i + (e - i) = e from by omega]) (fun j hj => hw j (by omega)) (fun j hj => hcr j (by omega))
      have hm := qc_mono f i e (by omega)
      have hle := qc_le f e
      have hic : i < c := by omega
      by_cases hq : qc f i % 2 = 0
      · have HR : Hid (best f n = i + 1) := HB.out.trans (back_even f i e hi h10 hno hq)
        have ht : (((qc f e : Int) - ((qc f e : Int) - (qc f i : Int))) % 2 == 0) = true := beq_iff_eq.2 (by omega)
        clear hcr hc hw hL hno HB h10 hq
        go_wp2_with (first | (go_at_call 44; refine h1.mono ?_; rintro e w' ⟨rfl, rfl⟩) | (go_at_call 43; refine h2.mono ?_; rintro e w' ⟨rfl, rfl⟩))
        go_ret
        exact ⟨ret_int (by rw [HR.out]; rfl), hbel.alloc (Nat.le_trans (Nat.le_refl _) hbel.size) _⟩
      · have HR : Hid (best f n = best f i) := HB.out.trans (back_odd f i e hi hno hq)
        have ht : (((qc f e : Int) - ((qc f e : Int) - (qc f i : Int))) % 2 == 0) = false := beq_eq_false_iff_ne.2 (by omega)
        clear hcr hc hw hL hno HB h10 hq
        go_wp2_with (first | (go_at_call 44; refine h1.mono ?_; rintro e w' ⟨rfl, rfl⟩) | (go_at_call 43; refine h2.mono ?_; rintro e w' ⟨rfl, rfl⟩))
        go_roundg i
        case measure => go_light; omega
        case rel => exact ⟨i, by omega, rfl, by go_num, rfl, HR, hbel.alloc (Nat.le_trans (Nat.le_refl _) hbel.size) _⟩
end Go.Proofs.Qxb6003633a
