/-
  SEAT b6003688a: bytes.Count with the separator CR LF at a text without CR; utf8.RuneCount.
-/
import Derived.Test.Qxb6003688aWalkB
namespace Go.Proofs.Qxb6003688a
open Go.RowKit Math

set_option maxHeartbeats 400000 in
theorem count2_win (p : Option Addr) (m c b2 : Nat) (g : Nat → Int) (mx : Int) (w : World) (hm : m ≤ 1048577) (hmx : w.cell? ⟨0, 0, none⟩ = some (.int .i64 mx)) (h : Win w p m c g) (hb2 : b2 < w.heap.size) (hc0 : w.cell? ⟨b2, 0, none⟩ = some (.int .u8 13)) (hc1 : w.cell? ⟨b2, 1, none⟩ = some (.int .u8 10)) (hne : ∀ j, j < m → ¬ g j = 13) :
    Calls Try.prog 23 #[.slice p m c, .slice (some ⟨b2, 0, none⟩) 2 2] w fun e w' => e = .returned (.int .i64 0) ∧ w = w' := by
  have hi := index_win p m c b2 g mx w hm hmx h hb2 hc0 hc1 hne
  clear h hne hmx
  go_enter Try.func23, Try.ntmps23
  go_wp2
  refine wp_loop_rounds 1 ?_
  rw [rounds_succ]
  go_wp2_with (go_at_call 31; refine hi.mono ?_; rintro e w' ⟨rfl, rfl⟩)
  go_ret
  exact ⟨rfl, rfl⟩

/-- The number of characters of the m bytes from i on, as utf8.RuneCount reckons it: the ASCII head, then what is left as a string. -/
def rc (f : Nat → Int) : Nat → Nat → Nat
  | 0, _ => 0
  | m + 1, i => if f i < 128 then 1 + rc f m (i + 1) else Lib.runeCount (strOfNums ((List.range (m + 1)).map (fun j => f (i + j))))

theorem rc_le (f : Nat → Int) (m : Nat) : ∀ i, rc f m i ≤ m := by
  induction m with
  | zero => intro i; exact Nat.le_refl _
  | succ m ih =>
    intro i
    unfold rc
    split
    · have := ih (i + 1); omega
    · refine Nat.le_trans (Lib.runeCount_le _) ?_
      simp [strOfNums, ByteArray.size]

theorem rc_shift (f : Nat → Int) (s : Nat) (m : Nat) : ∀ i, rc (fun j => f (s + j)) m i = rc f m (s + i) := by
  induction m with
  | zero => intro i; rfl
  | succ m ih =>
    intro i
    simp only [rc, ih, Nat.add_assoc]

set_option maxHeartbeats 1000000 in
theorem runes_string (s : ByteArray) (w : World) (hs : s.size < 9223372036854775807) :
    Calls Try.prog 33 #[.string s] w fun e w' => e = .returned (.int .i64 (Lib.runeCount s)) ∧ ∃ pos, w' = w.iter s pos := by
  go_enter Try.func33, Try.ntmps33
  go_wp2
  go_loopw [2] (fun n w' => ∃ (pos b acc : Nat), w' = w.iter s pos ∧ n = .int .i64 acc ∧ acc + Lib.runeCountFrom s b pos = Lib.runeCount s ∧ s.size ≤ pos + b ∧ acc ≤ pos) (fun _ w' => s.size - w'.iterPos w.heap.size)
  case atStart => exact ⟨0, s.size, 0, rfl, rfl, by simp [Lib.runeCount], by omega, Nat.le_refl _⟩
  case round =>
    obtain ⟨pos, b, acc, rfl, rfl, hc, hb, ha⟩ := hrel
    by_cases hp : pos < s.size
    · have hnx : ∀ ty, (Instr.next (.pointer (some ⟨w.heap.size, 0, none⟩)) true ty).run Try.prog (w.iter s pos) = _ := fun ty => run_next_any w s pos ty hp
      have hwd := Lib.decode_width_pos s pos hp
      go_wp2
      go_roundw
      case rel =>
        cases b with
        | zero => omega
        | succ b =>
          refine ⟨pos + (Utf8.decode s pos).2, b, acc + 1, rfl, by go_num, ?_, by omega, by omega⟩
          rw [← hc]
          simp [Lib.runeCountFrom, hp]
          omega
      case measure =>
        simp
        omega
    · have hnx : ∀ ty, (Instr.next (.pointer (some ⟨w.heap.size, 0, none⟩)) true ty).run Try.prog (w.iter s pos) = _ := fun ty => run_next_end w s pos ty hp
      go_wp2
      go_ret
      rw [Lib.runeCountFrom_end s b pos hp, Nat.add_zero] at hc
      subst hc
      exact ⟨rfl, _, rfl⟩

theorem below_iter (w : World) (s : ByteArray) (pos : Nat) : Below w.heap.size w (w.iter s pos) := by
  exact (Below.refl _ w).alloc (Nat.le_refl _) _

set_option maxHeartbeats 1000000 in
theorem runes_win (p : Option Addr) (m c : Nat) (g : Nat → Int) (w : World) (hm : m ≤ 1048577) (h : Win w p m c g) :
    Calls Try.prog 25 #[.slice p m c] w fun e w' => e = .returned (.int .i64 (rc g m 0)) ∧ Below w.heap.size w w' := by
  have HW : Hid (Win w p m c g) := h
  obtain ⟨h1, h2, h3⟩ := h
  have H3 : Hid (0 < m → ∃ b o, p = some ⟨b, o, none⟩ ∧ b < w.heap.size ∧ ∀ j, j < m → w.cell? ⟨b, o + j, none⟩ = some (.int .u8 (g j))) := h3
  have H2 : Hid (∀ j, j < m → 0 ≤ g j ∧ g j < 256) := h2
  clear h2 h3
  go_enter Try.func25, Try.ntmps25
  go_wp2
  go_loopg [4] m (fun gk i wr => ∃ k : Nat, k ≤ m ∧ m - k = gk ∧ i = .int .i64 k ∧ Hid (rc g m 0 = k + rc g (m - k) k) ∧ w = wr)
  case atStart => exact ⟨0, Nat.zero_le _, rfl, rfl, (Nat.zero_add _).symm, rfl⟩
  case round =>
    obtain ⟨k, hk, rfl, rfl, HL, rfl⟩ := hrel
    by_cases hlt : k < m
    · obtain ⟨b, o, rfl, hbl, hc⟩ := H3.out (by omega)
      have hz : (k : Int) < (m : Int) := by omega
      have hcell := hc k hlt
      have hrc := rc_le g (m - k) k
      by_cases h128 : g k < 128
      · have HR : Hid (rc g m 0 = (k + 1) + rc g (m - (k + 1)) (k + 1)) := by
          have h := HL.out
          rw [show m - k = (m - (k + 1)) + 1 from by omega, rc, if_pos h128] at h
          show _ = _
          omega
        have hge : ¬ (128 : Int) ≤ g k := by omega
        clear HL H3 H2 HW hc hrc
        go_wp2
        go_roundg (m - (k + 1))
        case measure => go_light; omega
        case rel => exact ⟨k + 1, by omega, rfl, by go_num, HR, rfl⟩
      · obtain ⟨p', hsl, hw'⟩ := slice_from HW.out k (by omega)
        obtain ⟨_, _, h3'⟩ := hw'
        have hpos : 0 < m - k := by omega
        obtain ⟨b', o', rfl, _, hc'⟩ := h3' hpos
        clear h3'
        have hcv := run_convert_bytes_arg (P := Try.prog) w 22 5 Try.underlying22 Try.underlying5 b' o' (m - k) (c - k) ((List.range (m - k)).map (fun j => g (k + j))) (by simp) (fun i hi => by rw [nums_getD _ _ i hi]; exact hc' i hi) 9 Try.underlying9
        have hsz : (strOfNums ((List.range (m - k)).map (fun j => g (k + j)))).size = m - k := by simp [strOfNums, ByteArray.size]
        have HR : Hid (rc g m 0 = k + Lib.runeCount (strOfNums ((List.range (m - k)).map (fun j => g (k + j))))) := by
          have h := HL.out
          rw [show m - k = (m - (k + 1)) + 1 from by omega, rc, if_neg h128] at h
          rw [show m - k = (m - (k + 1)) + 1 from by omega]
          exact h
        have hle := Lib.runeCount_le (strOfNums ((List.range (m - k)).map (fun j => g (k + j))))
        have hcall := runes_string (strOfNums ((List.range (m - k)).map (fun j => g (k + j)))) w (by rw [hsz]; omega)
        rw [hsz] at hle
        generalize strOfNums ((List.range (m - k)).map (fun j => g (k + j))) = s at *
        generalize Lib.runeCount s = r at *
        have hge : (128 : Int) ≤ g k := by omega
        clear HL H3 H2 HW hc hrc hc' h128 hsz
        go_wp2_with (go_at_call 33; refine hcall.mono ?_; rintro e w' ⟨rfl, pos, rfl⟩)
        go_ret
        exact ⟨ret_int (by rw [HR.out]; omega), below_iter _ _ _⟩
    · have : k = m := by omega
      subst this
      have HR : Hid (rc g k 0 = k) := by
        have h := HL.out
        rw [Nat.sub_self] at h
        exact h
      clear HL H3 H2 HW hlt
      go_wp2
      go_ret
      exact ⟨ret_int (by rw [HR.out]), Below.refl _ _⟩
end Go.Proofs.Qxb6003688a
