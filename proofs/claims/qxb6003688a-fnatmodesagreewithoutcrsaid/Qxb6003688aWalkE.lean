/-
  SEAT b6003688a: At under LF, counting on and counting anew.
-/
import Derived.Test.Qxb6003688aWalkD
set_option linter.unusedVariables false
namespace Go.Proofs.Qxb6003688a
open Go.RowKit Math

set_option maxHeartbeats 2000000 in
theorem at_lf_on (C : Nat) (p : Option Addr) (n c off line col o : Nat) (f : Nat → Int) (mx : Int) (w : World) (hn : n ≤ 65536) (hoff : off ≤ o) (hon : o ≤ n) (hofn : off ≤ n) (hl : line ≤ off) (hcl : col ≤ off) (hC : Ctr w C p n c 0 off line col) (hC0 : 0 < C) (hmx : w.cell? ⟨0, 0, none⟩ = some (.int .i64 mx)) (hW : Win w p n c f) :
    Calls Try.prog 12 #[.pointer (some ⟨C, 0, none⟩), .int .i64 o] w fun e w' => e = .returned (.tuple #[.int .i64 (((line + ct 10 (fun j => f (off + j)) (o - off) : Nat) : Int) + 1), .int .i64 (((newCol (fun j => f (off + j)) (o - off) col : Nat) : Int) + 1)]) ∧ Ctr w' C p n c 0 o (line + ct 10 (fun j => f (off + j)) (o - off)) (newCol (fun j => f (off + j)) (o - off) col) ∧ w.grownBy w' (some C) := by
  obtain ⟨q, hsl, hq⟩ := slice_win hW off o (by omega) hon
  have S : Sit w w C p n c 0 off line col q (o - off) (c - off) (fun j => f (off + j)) mx := ⟨hC, hq, ⟨rfl, rfl, rfl, Nat.le_refl _, fun _ _ _ => rfl⟩, hmx, hC0⟩
  obtain ⟨m, hm⟩ : ∃ m, m = o - off := ⟨_, rfl⟩
  obtain ⟨g, hg⟩ : ∃ g, g = (fun j => f (off + j)) := ⟨_, rfl⟩
  obtain ⟨d, hd⟩ : ∃ d, d = c - off := ⟨_, rfl⟩
  rw [← hm, ← hg, ← hd] at S
  rw [← hm, ← hg]
  rw [← hm, ← hd] at hsl
  have hmo : m ≤ o := by omega
  have HM : Hid (m = o - off) := hm
  clear hg hm hd hq hW hC hmx
  obtain ⟨E, hE⟩ : ∃ E, ct 10 g m = E := ⟨_, rfl⟩
  have hEm : E ≤ m := by rw [← hE]; exact ct_le 10 g m
  have HE : Hid (ct 10 g m = E) := hE
  rw [hE]
  clear hE
  obtain ⟨N, hN⟩ : ∃ N, newCol g m col = N := ⟨_, rfl⟩
  have HN : Hid (newCol g m col = N) := hN
  rw [hN]
  clear hN
  obtain ⟨k0, k1, k2, k3, k4⟩ := S.ctr.cell
  have f2 := S.ctr.frozen 2
  have f3 := S.ctr.frozen 3
  have f4 := S.ctr.frozen 4
  have hnb : ¬ (o : Int) < (off : Int) := by omega
  go_enter Try.func12, Try.ntmps12
  go_wp2
  go_quiet (fail)
  have S := S.drewN nq
  clear k0 k1 k2 k3 k4 f2 f3 f4
  generalize w.drewN nq = w2 at S ⊢
  clear hsl hnb
  obtain ⟨k0, k1, k2, k3, k4⟩ := S.ctr.cell
  have f2 := S.ctr.frozen 2
  have f3 := S.ctr.frozen 3
  have f4 := S.ctr.frozen 4
  go_wp2_with fail
  have S := S.alloc (.cells #[.int .u8 10] 5)
  refine (count_win' 10 (by omega) q m d w2.heap.size 1 E g _ S.win HE.out (new_cell _ _ _)).mono ?_
  rintro e w3 ⟨rfl, rfl⟩
  clear k0 k1 k2 k3 k4 f2 f3 f4
  generalize w2.alloc (.cells #[.int .u8 10] 5) = w3 at S ⊢
  obtain ⟨k0, k1, k2, k3, k4⟩ := S.ctr.cell
  have f2 := S.ctr.frozen 2
  have f3 := S.ctr.frozen 3
  have f4 := S.ctr.frozen 4
  go_wp2_with fail
  rcases lastOf_spec 10 g m with ⟨hL, hz⟩ | ⟨i, hi, hL⟩
  · refine (last_win 10 q m d g (-1) w3 (by omega) S.win hL).mono ?_
    rintro e w4 ⟨rfl, rfl⟩
    have hE0 : E = 0 := by rw [← HE.out]; exact hz
    subst hE0
    obtain ⟨r, hr⟩ : ∃ r, rc g m 0 = r := ⟨_, rfl⟩
    have hrm : r ≤ m := by rw [← hr]; exact rc_le g m 0
    have HF : Hid (N = col + r) := by rw [← hr]; exact HN.out.symm.trans (newCol_none g m col hL)
    have hmax : max (-1 : Int) (-1) = -1 := rfl
    clear hL hz HN HE HM
    go_wp2_with fail
    go_region_with (go_at_call 25; refine (runes_win' q m d r g _ (by omega) hr ?_).mono ?_; exact S.drew.win; rintro e w5 ⟨rfl, hb5⟩; have S5 := S.drew.below hb5; obtain ⟨j0, j1, j2, j3, j4⟩ := S5.ctr.cell; have e2 := S5.ctr.frozen 2; have e3 := S5.ctr.frozen 3; have e4 := S5.ctr.frozen 4)
    all_goals
      rw [wrap_sum col r (by omega)]
      have S6 := S5.set4 (col + r)
      clear k0 k1 k2 k3 k4 f2 f3 f4 j0 j1 j2 j3 j4 e2 e3 e4 hb5
      generalize w5.setCell ⟨C, 4, none⟩ (.int .i64 ((col + r : Nat) : Int)) = w6 at S6 ⊢
      obtain ⟨k0, k1, k2, k3, k4⟩ := S6.ctr.cell
      have f2 := S6.ctr.frozen 2
      have f3 := S6.ctr.frozen 3
      have f4 := S6.ctr.frozen 4
      go_wp2
      have S7 := S6.set2 o
      clear k0 k1 k2 k3 k4 f2 f3 f4
      generalize w6.setCell ⟨C, 2, none⟩ (.int .i64 (o : Int)) = w7 at S7 ⊢
      obtain ⟨k0, k1, k2, k3, k4⟩ := S7.ctr.cell
      go_quiet (fail)
      have S8 := S7.drewN nq
      go_wp2
      go_ret2
      rw [HF.out]
      exact ⟨by simp, S8.ctr, S8.grown⟩
  · refine (last_win 10 q m d g i w3 (by omega) S.win hL).mono ?_
    rintro e w4 ⟨rfl, rfl⟩
    obtain ⟨q', hsl', hq'⟩ := slice_from S.win (i + 1) (by omega)
    obtain ⟨r, hr⟩ : ∃ r, rc (fun j => g (i + 1 + j)) (m - (i + 1)) 0 = r := ⟨_, rfl⟩
    have hrm : r ≤ m - (i + 1) := by rw [← hr]; exact rc_le _ _ _
    have HF : Hid (N = r) := by rw [← hr, rc_shift]; exact HN.out.symm.trans (newCol_some g m col i hL)
    have HQ : Hid (Win w3 q' (m - (i + 1)) (d - (i + 1)) (fun j => g (i + 1 + j))) := hq'
    rw [show ((i + 1 : Nat) : Int) = (i : Int) + 1 from by omega] at hsl'
    have hmax : max (i : Int) (-1) = i := Int.max_eq_left (by omega)
    have hig : (0 : Int) ≤ (i : Int) := by omega
    clear hL HN HE HM hq'
    go_wp2_with fail
    have S := ((S.window HQ.out).set3 (line + E)).set4 0
    rw [show ((0 : Nat) : Int) = 0 from rfl, show ((line + E : Nat) : Int) = (line : Int) + (E : Int) from by omega] at S
    clear k0 k1 k2 k3 k4 f2 f3 f4 hsl' HQ hmax
    generalize (w3.setCell ⟨C, 3, none⟩ (.int .i64 ((line : Int) + (E : Int)))).setCell ⟨C, 4, none⟩ (.int .i64 0) = w4 at S ⊢
    obtain ⟨k0, k1, k2, k3, k4⟩ := S.ctr.cell
    rw [show ((0 : Nat) : Int) = 0 from rfl] at k4
    have f2 := S.ctr.frozen 2
    have f3 := S.ctr.frozen 3
    have f4 := S.ctr.frozen 4
    go_region_with (go_at_call 25; refine (runes_win' q' (m - (i + 1)) (d - (i + 1)) r _ _ (by omega) hr ?_).mono ?_; exact S.drew.win; rintro e w5 ⟨rfl, hb5⟩; have S5 := S.drew.below hb5; obtain ⟨j0, j1, j2, j3, j4⟩ := S5.ctr.cell; rw [show ((0 : Nat) : Int) = 0 from rfl] at j4; have e2 := S5.ctr.frozen 2; have e3 := S5.ctr.frozen 3; have e4 := S5.ctr.frozen 4)
    all_goals
      rw [wrap_sum0 r (by omega)]
      have S6 := S5.set4 (r)
      clear k0 k1 k2 k3 k4 f2 f3 f4 j0 j1 j2 j3 j4 e2 e3 e4 hb5
      generalize w5.setCell ⟨C, 4, none⟩ (.int .i64 ((r : Nat) : Int)) = w6 at S6 ⊢
      obtain ⟨k0, k1, k2, k3, k4⟩ := S6.ctr.cell
      have f2 := S6.ctr.frozen 2
      have f3 := S6.ctr.frozen 3
      have f4 := S6.ctr.frozen 4
      go_wp2
      have S7 := S6.set2 o
      clear k0 k1 k2 k3 k4 f2 f3 f4
      generalize w6.setCell ⟨C, 2, none⟩ (.int .i64 (o : Int)) = w7 at S7 ⊢
      obtain ⟨k0, k1, k2, k3, k4⟩ := S7.ctr.cell
      go_quiet (fail)
      have S8 := S7.drewN nq
      go_wp2
      go_ret2
      rw [HF.out]
      exact ⟨by simp, S8.ctr, S8.grown⟩

set_option maxHeartbeats 2000000 in
theorem at_lf_back (C : Nat) (p : Option Addr) (n c off line col o : Nat) (f : Nat → Int) (mx : Int) (w : World) (hn : n ≤ 65536) (hoff : o < off) (hon : o ≤ n) (hofn : off ≤ n) (hl : line ≤ off) (hcl : col ≤ off) (hC : Ctr w C p n c 0 off line col) (hC0 : 0 < C) (hmx : w.cell? ⟨0, 0, none⟩ = some (.int .i64 mx)) (hW : Win w p n c f) :
    Calls Try.prog 12 #[.pointer (some ⟨C, 0, none⟩), .int .i64 o] w fun e w' => e = .returned (.tuple #[.int .i64 (((0 + ct 10 (fun j => f (0 + j)) (o - 0) : Nat) : Int) + 1), .int .i64 (((newCol (fun j => f (0 + j)) (o - 0) 0 : Nat) : Int) + 1)]) ∧ Ctr w' C p n c 0 o (0 + ct 10 (fun j => f (0 + j)) (o - 0)) (newCol (fun j => f (0 + j)) (o - 0) 0) ∧ w.grownBy w' (some C) := by
  obtain ⟨q, hsl, hq⟩ := slice_win hW 0 o (by omega) hon
  have S : Sit w w C p n c 0 off line col q (o - 0) (c - 0) (fun j => f (0 + j)) mx := ⟨hC, hq, ⟨rfl, rfl, rfl, Nat.le_refl _, fun _ _ _ => rfl⟩, hmx, hC0⟩
  obtain ⟨m, hm⟩ : ∃ m, m = o - 0 := ⟨_, rfl⟩
  obtain ⟨g, hg⟩ : ∃ g, g = (fun j => f (0 + j)) := ⟨_, rfl⟩
  obtain ⟨d, hd⟩ : ∃ d, d = c - 0 := ⟨_, rfl⟩
  rw [← hm, ← hg, ← hd] at S
  rw [← hm, ← hg]
  rw [← hm, ← hd] at hsl
  have hmo : m ≤ o := by omega
  have HM : Hid (m = o - 0) := hm
  clear hg hm hd hq hW hC hmx
  obtain ⟨z, hz⟩ : ∃ z : Nat, z = 0 := ⟨0, rfl⟩
  have HZ : Hid (z = 0) := hz
  have hzo : z ≤ o := by omega
  obtain ⟨E, hE⟩ : ∃ E, ct 10 g m = E := ⟨_, rfl⟩
  have hEm : E ≤ m := by rw [← hE]; exact ct_le 10 g m
  have HE : Hid (ct 10 g m = E) := hE
  rw [hE]
  clear hE
  obtain ⟨N, hN⟩ : ∃ N, newCol g m 0 = N := ⟨_, rfl⟩
  have HN : Hid (newCol g m z = N) := by rw [hz]; exact hN
  rw [hN]
  clear hN
  obtain ⟨k0, k1, k2, k3, k4⟩ := S.ctr.cell
  have f2 := S.ctr.frozen 2
  have f3 := S.ctr.frozen 3
  have f4 := S.ctr.frozen 4
  have hnb : (o : Int) < (off : Int) := by omega
  rw [show ((0 : Nat) : Int) = (z : Int) from by rw [hz]] at hsl
  have S1 : Sit w (((w.setCell ⟨C, 2, none⟩ (.int .i64 0)).setCell ⟨C, 3, none⟩ (.int .i64 0)).setCell ⟨C, 4, none⟩ (.int .i64 0)) C p n c 0 z z z q m d g mx := by rw [hz]; exact ((S.set2 0).set3 0).set4 0
  clear hz
  go_enter Try.func12, Try.ntmps12
  go_wp2
  clear k0 k1 k2 k3 k4 f2 f3 f4
  generalize ((w.setCell ⟨C, 2, none⟩ (.int .i64 0)).setCell ⟨C, 3, none⟩ (.int .i64 0)).setCell ⟨C, 4, none⟩ (.int .i64 0) = w1 at S1 ⊢
  clear S
  have S := S1
  clear S1
  obtain ⟨k0, k1, k2, k3, k4⟩ := S.ctr.cell
  have f2 := S.ctr.frozen 2
  have f3 := S.ctr.frozen 3
  have f4 := S.ctr.frozen 4
  go_quiet (fail)
  have S := S.drewN nq
  clear k0 k1 k2 k3 k4 f2 f3 f4
  generalize w1.drewN nq = w2 at S ⊢
  clear hsl hnb
  obtain ⟨k0, k1, k2, k3, k4⟩ := S.ctr.cell
  have f2 := S.ctr.frozen 2
  have f3 := S.ctr.frozen 3
  have f4 := S.ctr.frozen 4
  go_wp2_with fail
  have S := S.alloc (.cells #[.int .u8 10] 5)
  refine (count_win' 10 (by omega) q m d w2.heap.size 1 E g _ S.win HE.out (new_cell _ _ _)).mono ?_
  rintro e w3 ⟨rfl, rfl⟩
  clear k0 k1 k2 k3 k4 f2 f3 f4
  generalize w2.alloc (.cells #[.int .u8 10] 5) = w3 at S ⊢
  obtain ⟨k0, k1, k2, k3, k4⟩ := S.ctr.cell
  have f2 := S.ctr.frozen 2
  have f3 := S.ctr.frozen 3
  have f4 := S.ctr.frozen 4
  go_wp2_with fail
  rcases lastOf_spec 10 g m with ⟨hL, hz⟩ | ⟨i, hi, hL⟩
  · refine (last_win 10 q m d g (-1) w3 (by omega) S.win hL).mono ?_
    rintro e w4 ⟨rfl, rfl⟩
    have hE0 : E = 0 := by rw [← HE.out]; exact hz
    subst hE0
    obtain ⟨r, hr⟩ : ∃ r, rc g m 0 = r := ⟨_, rfl⟩
    have hrm : r ≤ m := by rw [← hr]; exact rc_le g m 0
    have HF : Hid (N = z + r) := by rw [← hr]; exact HN.out.symm.trans (newCol_none g m z hL)
    have hmax : max (-1 : Int) (-1) = -1 := rfl
    clear hL hz HN HE HM
    go_wp2_with fail
    go_region_with (go_at_call 25; refine (runes_win' q m d r g _ (by omega) hr ?_).mono ?_; exact S.drew.win; rintro e w5 ⟨rfl, hb5⟩; have S5 := S.drew.below hb5; obtain ⟨j0, j1, j2, j3, j4⟩ := S5.ctr.cell; have e2 := S5.ctr.frozen 2; have e3 := S5.ctr.frozen 3; have e4 := S5.ctr.frozen 4)
    all_goals
      rw [wrap_sum z r (by omega)]
      have S6 := S5.set4 (z + r)
      clear k0 k1 k2 k3 k4 f2 f3 f4 j0 j1 j2 j3 j4 e2 e3 e4 hb5
      generalize w5.setCell ⟨C, 4, none⟩ (.int .i64 ((z + r : Nat) : Int)) = w6 at S6 ⊢
      obtain ⟨k0, k1, k2, k3, k4⟩ := S6.ctr.cell
      have f2 := S6.ctr.frozen 2
      have f3 := S6.ctr.frozen 3
      have f4 := S6.ctr.frozen 4
      go_wp2
      have S7 := S6.set2 o
      clear k0 k1 k2 k3 k4 f2 f3 f4
      generalize w6.setCell ⟨C, 2, none⟩ (.int .i64 (o : Int)) = w7 at S7 ⊢
      obtain ⟨k0, k1, k2, k3, k4⟩ := S7.ctr.cell
      go_quiet (fail)
      have S8 := S7.drewN nq
      go_wp2
      go_ret2
      rw [HF.out]
      have hz := HZ.out
      subst hz
      exact ⟨by simp, S8.ctr, S8.grown⟩
  · refine (last_win 10 q m d g i w3 (by omega) S.win hL).mono ?_
    rintro e w4 ⟨rfl, rfl⟩
    obtain ⟨q', hsl', hq'⟩ := slice_from S.win (i + 1) (by omega)
    obtain ⟨r, hr⟩ : ∃ r, rc (fun j => g (i + 1 + j)) (m - (i + 1)) 0 = r := ⟨_, rfl⟩
    have hrm : r ≤ m - (i + 1) := by rw [← hr]; exact rc_le _ _ _
    have HF : Hid (N = r) := by rw [← hr, rc_shift]; exact HN.out.symm.trans (newCol_some g m z i hL)
    have HQ : Hid (Win w3 q' (m - (i + 1)) (d - (i + 1)) (fun j => g (i + 1 + j))) := hq'
    rw [show ((i + 1 : Nat) : Int) = (i : Int) + 1 from by omega] at hsl'
    have hmax : max (i : Int) (-1) = i := Int.max_eq_left (by omega)
    have hig : (0 : Int) ≤ (i : Int) := by omega
    clear hL HN HE HM hq'
    go_wp2_with fail
    have S := ((S.window HQ.out).set3 (z + E)).set4 0
    rw [show ((0 : Nat) : Int) = 0 from rfl, show ((z + E : Nat) : Int) = (z : Int) + (E : Int) from by omega] at S
    clear k0 k1 k2 k3 k4 f2 f3 f4 hsl' HQ hmax
    generalize (w3.setCell ⟨C, 3, none⟩ (.int .i64 ((z : Int) + (E : Int)))).setCell ⟨C, 4, none⟩ (.int .i64 0) = w4 at S ⊢
    obtain ⟨k0, k1, k2, k3, k4⟩ := S.ctr.cell
    rw [show ((0 : Nat) : Int) = 0 from rfl] at k4
    have f2 := S.ctr.frozen 2
    have f3 := S.ctr.frozen 3
    have f4 := S.ctr.frozen 4
    go_region_with (go_at_call 25; refine (runes_win' q' (m - (i + 1)) (d - (i + 1)) r _ _ (by omega) hr ?_).mono ?_; exact S.drew.win; rintro e w5 ⟨rfl, hb5⟩; have S5 := S.drew.below hb5; obtain ⟨j0, j1, j2, j3, j4⟩ := S5.ctr.cell; rw [show ((0 : Nat) : Int) = 0 from rfl] at j4; have e2 := S5.ctr.frozen 2; have e3 := S5.ctr.frozen 3; have e4 := S5.ctr.frozen 4)
    all_goals
      rw [wrap_sum0 r (by omega)]
      have S6 := S5.set4 (r)
      clear k0 k1 k2 k3 k4 f2 f3 f4 j0 j1 j2 j3 j4 e2 e3 e4 hb5
      generalize w5.setCell ⟨C, 4, none⟩ (.int .i64 ((r : Nat) : Int)) = w6 at S6 ⊢
      obtain ⟨k0, k1, k2, k3, k4⟩ := S6.ctr.cell
      have f2 := S6.ctr.frozen 2
      have f3 := S6.ctr.frozen 3
      have f4 := S6.ctr.frozen 4
      go_wp2
      have S7 := S6.set2 o
      clear k0 k1 k2 k3 k4 f2 f3 f4
      generalize w6.setCell ⟨C, 2, none⟩ (.int .i64 (o : Int)) = w7 at S7 ⊢
      obtain ⟨k0, k1, k2, k3, k4⟩ := S7.ctr.cell
      go_quiet (fail)
      have S8 := S7.drewN nq
      go_wp2
      go_ret2
      rw [HF.out]
      have hz := HZ.out
      subst hz
      exact ⟨by simp, S8.ctr, S8.grown⟩
end Go.Proofs.Qxb6003688a
