/-
  SEAT b6602523a: FnMarkBeforeTextChangesNothing.
-/
import Derived.Test.Qxb6602523aWalkE
namespace Go.Proofs.Qxb6602523a
open Go.RowKit Math

set_option maxHeartbeats 400000 in
theorem mark_law (a0 : Bool) (a1 : ByteArray) (w : World) :
    Calls Try.prog 5 #[.bool a0, .string a1] w fun e w' => e = .returned (.bool true) ∧ Below w.heap.size w w' := by
  by_cases h1 : a1.size ≤ 1048576
  · have hz := zz17 a0 a1 true (decide_eq_true h1) w
    have hlt : ¬ (1048576 : Int) < (a1.size : Int) := by omega
    by_cases he : a1.data.toList = []
    · have hE1 : a1.toList.isEmpty = true := by rw [Lib.toList_data, he]; rfl
      go_enter Try.func5, Try.ntmps5
      go_wp2_with (go_at_call 17; refine hz.mono ?_; rintro e w' ⟨rfl, rfl⟩)
      go_ret
      exact ⟨rfl, Below.refl _ _⟩
    · have hE1 : a1.toList.isEmpty = false := by
        rw [Lib.toList_data]
        cases hl : a1.data.toList with
        | nil => exact absurd hl he
        | cons c l => rfl
      obtain ⟨A, hA⟩ : ∃ A, addN a1.size a1.data.toList [] a0 = A := ⟨_, rfl⟩
      obtain ⟨N2, f2⟩ := A
      have hsz : a1.data.toList.length = a1.size := by simp
      have hpos : 0 < a1.data.toList.length := List.length_pos_iff.2 he
      have hB : addN a1.size a1.data.toList (mk [] a0) false = (N2, f2) := by
        obtain ⟨m, hm⟩ : ∃ m, a1.size = m + 1 := ⟨a1.size - 1, by omega⟩
        rw [hm] at hA ⊢
        rw [addN_mark m _ _ _ he]
        exact hA
      have hlen := addN_length a1.size a1.data.toList [] a0 (by omega)
      rw [hA] at hlen
      have hlen : N2.length ≤ 4194304 := by
        have : N2.length ≤ ([] : List Node).length + 2 * a1.data.toList.length := hlen
        rw [hsz] at this
        simp only [List.length_nil] at this
        omega
      have hb0 : ([] : List Node).length + 2 * a1.size ≤ 4194304 := by simp only [List.length_nil]; omega
      have hb1 : (mk [] a0).length + 2 * a1.size ≤ 4194304 := by
        have := mk_le [] a0
        simp only [List.length_nil] at this
        omega
      have HA : Hid (addN a1.size a1.data.toList [] a0 = (N2, f2)) := hA
      have HB : Hid (addN a1.size a1.data.toList (mk [] a0) false = (N2, f2)) := hB
      clear hA hB hsz hpos he
      go_enter Try.func5, Try.ntmps5
      go_wp2_with (first
        | (go_at_call 17; refine hz.mono ?_; rintro e w' ⟨rfl, rfl⟩)
        | (go_at_call 7; have q := z3; clear q; refine (zzNew a0 w3).mono ?_; rintro e w4 ⟨rfl, z4, b4⟩)
        | (go_at_call 7; refine (zzNew a0 w).mono ?_; rintro e w1 ⟨rfl, z1, b1⟩)
        | (go_at_call 18; refine (zzMark _ _ _ [] a0 w1 (by decide) z1).mono ?_; rintro e w2 ⟨rfl, z2, b2⟩)
        | (go_at_call 8; have q := z4; clear q; refine (zzAdd _ _ _ a1 _ a0 N2 f2 w4 hb0 z4 HA.out).mono ?_; rintro e w5 ⟨rfl, z5, b5⟩; have z6 := z3.later (b4.trans b5); have fx : ∀ p, p = w.heap.size + 1 ∨ p = w3.heap.size + 1 → Calls Try.prog 14 #[.pointer (some ⟨p, 0, none⟩)] w5 fun e w' => e = .returned (.bool f2) ∧ w5 = w' := (fun p hp => hp.elim (fun e => e ▸ zzFlag _ _ _ _ _ _ z6) (fun e => e ▸ zzFlag _ _ _ _ _ _ z5)))
        | (go_at_call 8; refine (zzAdd _ _ _ a1 _ false N2 f2 w2 hb1 z2 HB.out).mono ?_; rintro e w3 ⟨rfl, z3, b3⟩)
        | (go_at_call 19; refine (sameNodes_any _ _ _ _ _ _ N2 f2 f2 w5 hlen z6 z5).mono ?_; rintro e w' ⟨rfl, rfl⟩)
        | (go_at_call 14; refine (fx _ (by simp only [true_or, or_true])).mono ?_; rintro e w' ⟨rfl, rfl⟩))
      go_ret
      have hs : w.heap.size ≤ w3.heap.size := Nat.le_trans b1.size (Nat.le_trans b2.size b3.size)
      exact ⟨rfl, ((b1.trans b2).trans b3).trans ((b4.trans b5).mono hs)⟩
  · have hz := zz17 a0 a1 false (decide_eq_false h1) w
    go_enter Try.func5, Try.ntmps5
    go_wp2_with (go_at_call 17; refine hz.mono ?_; rintro e w' ⟨rfl, rfl⟩)
    go_ret
    exact ⟨rfl, Below.refl _ _⟩
end Go.Proofs.Qxb6602523a
