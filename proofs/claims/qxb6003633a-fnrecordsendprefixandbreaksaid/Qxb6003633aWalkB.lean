/-
  SEAT b6003633a: bytes.Count at one byte, bytes.LastIndexByte, recordsEnd: each computes a plain function.
-/
import Derived.Test.Qxb6003633aWalkA
import Derived.Test.Qxb6003633aMath
import Derived.Shelf.Bytes.SlCountOne
namespace Go.Proofs.Qxb6003633a
open Go.RowKit Math

/-! ### bytes.Count with a separator of one byte -/

set_option maxHeartbeats 400000 in
theorem count_at (a : Addr) (n c b2 o2 d : Nat) (xs : List Int) (cv : Int) (w : World) (hx : xs.length = n) (hc : ∀ i, i < n → w.cell? (a.add i) = some (.int .u8 (xs.getD i 0))) (hc2 : w.cell? ⟨b2, o2, none⟩ = some (.int .u8 cv)) :
    Calls Try.prog 43 #[.slice (some a) n c, .slice (some ⟨b2, o2, none⟩) 1 d] w fun e w' => e = .returned (.int .i64 (Lib.countByte (Lib.bytesOf xs) cv.toNat.toUInt8)) ∧ w = w' := by
  go_enter Try.func43, Try.ntmps43
  go_wp2
  rw [run_callFunc_extern Try.func46 (by kernel_rfl) (by kernel_rfl) (by kernel_rfl) (e := Extern.BytealgCount.count) (by kernel_rfl), Lib.run_countAt w a n c xs hx hc cv]
  simp only [Result.andThen]
  rw [Oper.upon_value]
  go_wp2
  go_ret
  exact ⟨rfl, rfl⟩

set_option maxHeartbeats 400000 in
theorem count_nil (b2 o2 d : Nat) (cv : Int) (w : World) (hc2 : w.cell? ⟨b2, o2, none⟩ = some (.int .u8 cv)) :
    Calls Try.prog 43 #[.slice none 0 0, .slice (some ⟨b2, o2, none⟩) 1 d] w fun e w' => e = .returned (.int .i64 0) ∧ w = w' := by
  go_enter Try.func43, Try.ntmps43
  go_wp2
  rw [run_callFunc_extern Try.func46 (by kernel_rfl) (by kernel_rfl) (by kernel_rfl) (e := Extern.BytealgCount.count) (by kernel_rfl), Lib.run_countNil w 0 0 cv]
  simp only [Result.andThen]
  rw [Oper.upon_value]
  go_wp2
  go_ret
  exact ⟨rfl, rfl⟩

/-- The count of quotes among numbers that are bytes. -/
theorem countByte_eq (xs : List Int) (hw : ∀ x ∈ xs, 0 ≤ x ∧ x < 256) : Lib.countByte (Lib.bytesOf xs) (34 : Int).toNat.toUInt8 = (xs.filter (fun x => decide (x = 34))).length := by
  unfold Lib.countByte Lib.bytesOf
  induction xs with
  | nil => rfl
  | cons x xs ih =>
    have hx := hw x (by simp)
    rw [List.map_cons, List.count_cons, ih (fun y hy => hw y (by simp [hy])), List.filter_cons]
    by_cases e : x = 34
    · subst e; simp
    · have hne : (UInt8.ofNat x.toNat == (34 : Int).toNat.toUInt8) = false := by
        rw [beq_eq_false_iff_ne]
        intro h
        have := congrArg UInt8.toNat h
        simp at this
        omega
      rw [if_neg (by rw [hne]; exact Bool.false_ne_true), if_neg (by simp [e])]
      rfl

/-- .. of the part i .. e-1 of a row of bytes, in a world that bears the separator's new row. -/
theorem count_part (b o i m c : Nat) (f : Nat → Int) (w : World) (hb : b < w.heap.size) (hw : ∀ j, j < i + m → 0 ≤ f j ∧ f j < 256) (hc : ∀ j, j < i + m → w.cell? ⟨b, o + j, none⟩ = some (.int .u8 (f j))) :
    Calls Try.prog 43 #[.slice (some ⟨b, o + i, none⟩) m c, .slice (some ⟨w.heap.size, 0, none⟩) 1 1] (w.alloc (.cells #[.int .u8 34] 5)) fun e' w' => e' = .returned (.int .i64 ((qc f (i + m) : Int) - qc f i)) ∧ w' = w.alloc (.cells #[.int .u8 34] 5) := by
  have hlen : ((List.range m).map (fun j => f (i + j))).length = m := by simp
  have hcb := count_between f i m
  have hcw := countByte_eq ((List.range m).map (fun j => f (i + j))) (fun x hx => by
    obtain ⟨j, hj, rfl⟩ := List.mem_map.1 hx
    exact hw _ (by have := List.mem_range.1 hj; omega))
  refine (count_at ⟨b, o + i, none⟩ m c w.heap.size 0 1 ((List.range m).map (fun j => f (i + j))) 34 (w.alloc (.cells #[.int .u8 34] 5)) hlen (fun j hj => ?_) ?_).mono ?_
  · have ha : (⟨b, o + i, none⟩ : Addr).add j = ⟨b, o + (i + j), none⟩ := by simp [Addr.add, Nat.add_assoc]
    rw [ha, World.cell?_alloc_past _ _ _ hb, hc (i + j) (by omega), List.getD_eq_getElem?_getD, List.getElem?_map, List.getElem?_range hj]
    rfl
  · rw [World.cell?_alloc_at _ _ _ _ rfl]; rfl
  · rintro e' w' ⟨rfl, rfl⟩
    refine ⟨?_, rfl⟩
    rw [hcw]
    have : ((((List.range m).map (fun j => f (i + j))).filter (fun x => decide (x = 34))).length : Int) = (qc f (i + m) : Int) - qc f i := by omega
    rw [this]

/-! ### bytes.LastIndexByte -/

theorem ret_int {k : IntKind} {a b : Int} (h : a = b) : Ending.returned (.int k a) = .returned (.int k b) := by rw [h]

set_option maxHeartbeats 400000 in
theorem last_at (b o n c : Nat) (f : Nat → Int) (w : World) (hn : n ≤ 1048577) (hc : ∀ j, j < n → w.cell? ⟨b, o + j, none⟩ = some (.int .u8 (f j))) :
    Calls Try.prog 48 #[.slice (some ⟨b, o, none⟩) n c, .int .u8 10] w fun e w' => e = .returned (.int .i64 (lastBreak f n)) ∧ w = w' := by
  go_enter Try.func48, Try.ntmps48
  go_wp2
  go_loopg [5] n (fun g i wr => ∃ k : Nat, k ≤ n ∧ k = g ∧ i = .int .i64 ((k : Int) - 1) ∧ Hid (lastBreak f n = lastBreak f k) ∧ w = wr)
  case atStart => exact ⟨n, Nat.le_refl _, rfl, rfl, rfl, rfl⟩
  case round =>
    obtain ⟨k, hk, rfl, rfl, HL, rfl⟩ := hrel
    match k, hk, HL with
    | 0, hk, HL =>
      go_wp2
      go_ret
      exact ⟨ret_int HL.out.symm, rfl⟩
    | k + 1, hk, HL =>
      have hz : (k : Int) < (n : Int) := by omega
      have hcell := hc k (by omega)
      have ek : (((k + 1 : Nat) : Int) - 1) = (k : Int) := by omega
      rw [ek]
      clear ek hc
      by_cases h10 : f k = 10
      · have ht : (f k == 10) = true := by rw [h10]; rfl
        have HR : Hid (lastBreak f n = k) := HL.out.trans (lastBreak_hit f k h10)
        clear HL h10
        go_wp2
        go_ret
        exact ⟨ret_int HR.out.symm, rfl⟩
      · have ht : (f k == 10) = false := beq_eq_false_iff_ne.2 h10
        have HR : Hid (lastBreak f n = lastBreak f k) := HL.out.trans (lastBreak_no f k h10)
        clear HL h10
        go_wp2
        go_roundg k
        case measure => go_light; omega
        case rel => exact ⟨k, by omega, rfl, rfl, HR, rfl⟩
end Go.Proofs.Qxb6003633a
