/-
  SEAT b6602523a: markLineStart, addText.
-/
import Derived.Test.Qxb6602523aWalkB
import Derived.Test.Qxb6602523aMath
import Derived.Lib.Strings
namespace Go.Proofs.Qxb6602523a
open Go.RowKit Math

def Pz (B : Nat) (w : World) (P F : Nat) (N : List Node) (fl : Bool) : Prop := ∃ pv cv, Par B w P F (.slice pv N.length cv) N fl

theorem Par.ne {B P F : Nat} {w : World} {v : Value} {N : List Node} {fl : Bool} (h : Par B w P F v N fl) : P ≠ F := fun e => by
  have h1 := h.pb
  rw [e, h.fb] at h1
  simp at h1

theorem Par.apart {B P F : Nat} {w : World} {v : Value} {N : List Node} {fl : Bool} (h : Par B w P F v N fl) : v.ownBlock ≠ some P := fun e => by
  rcases h.own.2 with ⟨hv, _⟩ | ⟨g, cap, cur, hv, _, hh, _⟩
  · rw [hv] at e; simp [Value.ownBlock] at e
  · rw [hv] at e
    have e : g = P := by simpa [Value.ownBlock] using e
    subst e
    rw [h.pb] at hh
    simp at hh

theorem Par.setFlag {B P F : Nat} {w : World} {v : Value} {N : List Node} {fl : Bool} (h : Par B w P F v N fl) (b : Bool) : Par B (w.setCell ⟨P, 7, none⟩ (.bool b)) P F v N b :=
  ⟨by rw [heap_setCell_same _ P 7 (pcells fl F) 42 _ h.pb]; rfl, by rw [heap_setCell_other _ _ F _ (Ne.symm h.ne)]; exact h.fb, ownsRow_setCell_other h.own h.apart _, h.bp, h.bf⟩

theorem Pz.setFlag {B P F : Nat} {w : World} {N : List Node} {fl : Bool} (h : Pz B w P F N fl) (b : Bool) : Pz B (w.setCell ⟨P, 7, none⟩ (.bool b)) P F N b := by
  obtain ⟨pv, cv, h⟩ := h
  exact ⟨pv, cv, h.setFlag b⟩

theorem Pz.flag {B P F : Nat} {w : World} {N : List Node} {fl : Bool} (h : Pz B w P F N fl) : w.cell? ⟨P, 7, none⟩ = some (.bool fl) ∧ w.frozen? ⟨P, 7, none⟩ = false ∧ B ≤ P := by
  obtain ⟨pv, cv, h⟩ := h
  exact ⟨cell_of_row w P 7 _ _ _ h.pb, frozen_of_row w P 7 _ _ h.pb, h.bp⟩

theorem addZ (B P F k : Nat) (t : ByteArray) (N : List Node) (fl : Bool) (w : World) (hn : N.length ≤ 4194304) (h : Pz B w P F N fl) :
    Calls Try.prog 23 #[.pointer (some ⟨P, 0, none⟩), .agg #[.int .i64 k, .string t, .slice none 0 0, .int .i64 0, .slice none 0 0, .bool false, .string ⟨#[]⟩]] w fun e w' => e = .returned (.tuple #[]) ∧ Pz B w' P F (N ++ [(k, t)]) fl ∧ Below B w w' := by
  obtain ⟨pv, cv, hP⟩ := h
  refine (add_any B P F pv N.length cv k t N fl w hn rfl hP).mono ?_
  rintro e w' ⟨he, g, cap, h1, h2⟩
  exact ⟨he, ⟨some ⟨g, 0, none⟩, cap, by rw [List.length_append]; exact h1⟩, h2⟩

theorem addZ0 (B P F : Nat) (t : ByteArray) (N : List Node) (fl : Bool) (w : World) (hn : N.length ≤ 4194304) (h : Pz B w P F N fl) :
    Calls Try.prog 23 #[.pointer (some ⟨P, 0, none⟩), .agg #[.int .i64 0, .string t, .slice none 0 0, .int .i64 0, .slice none 0 0, .bool false, .string ⟨#[]⟩]] w fun e w' => e = .returned (.tuple #[]) ∧ Pz B w' P F (N ++ [(0, t)]) fl ∧ Below B w w' := addZ B P F 0 t N fl w hn h

theorem addZ1 (B P F : Nat) (t : ByteArray) (N : List Node) (fl : Bool) (w : World) (hn : N.length ≤ 4194304) (h : Pz B w P F N fl) :
    Calls Try.prog 23 #[.pointer (some ⟨P, 0, none⟩), .agg #[.int .i64 1, .string t, .slice none 0 0, .int .i64 0, .slice none 0 0, .bool false, .string ⟨#[]⟩]] w fun e w' => e = .returned (.tuple #[]) ∧ Pz B w' P F (N ++ [(1, t)]) fl ∧ Below B w w' := addZ B P F 1 t N fl w hn h

set_option maxHeartbeats 1000000 in
theorem mark_any (B P F : Nat) (N : List Node) (fl : Bool) (w : World) (hn : N.length ≤ 4194304) (h : Pz B w P F N fl) :
    Calls Try.prog 21 #[.pointer (some ⟨P, 0, none⟩)] w fun e w' => e = .returned (.tuple #[]) ∧ Pz B w' P F (mk N fl) false ∧ Below B w w' := by
  obtain ⟨g0, g1, hBP⟩ := h.flag
  cases fl with
  | false =>
    go_enter Try.func21, Try.ntmps21
    go_wp2
    go_end0
    exact ⟨rfl, h, Below.refl _ _⟩
  | true =>
    have hc := addZ1 B P F ⟨#[]⟩ N true w hn h
    have HZ : Hid (Pz B w P F N true) := h
    clear h
    go_enter Try.func21, Try.ntmps21
    go_wp2_with (go_at_call 23; refine hc.mono ?_; rintro e w1 ⟨rfl, h1, hb1⟩; obtain ⟨q0, q1, q2⟩ := h1.flag)
    go_end0
    exact ⟨rfl, h1.setFlag false, hb1.setCell hBP _⟩

/-! ### strings.IndexByte, strings.HasSuffix -/
set_option maxHeartbeats 400000 in
theorem ib_inner (s : ByteArray) (i : Int) (hi : Lib.indexByte s.data.toList 10 = i) (w : World) : Calls Try.prog 25 #[.string s, .int .u8 10] w fun e w' => e = .returned (.int .i64 i) ∧ w = w' := by
  have hr : (Extern.BytealgIndexByte.indexByte #[.string s, .int .u8 10]).run Try.prog w = .ok (.int .i64 i) w := by rw [Lib.run_indexByteString s 10 w, ← hi]; rfl
  clear hi
  go_enter Try.func25, Try.ntmps25
  go_wp2
  rw [run_callFunc_extern Try.func27 (by kernel_rfl) (by kernel_rfl) (by kernel_rfl) (e := Extern.BytealgIndexByte.indexByte) (by kernel_rfl), hr]
  simp only [Result.andThen]
  rw [Oper.upon_value]
  go_wp2
  go_ret
  exact ⟨rfl, rfl⟩

set_option maxHeartbeats 400000 in
theorem ib_any (s : ByteArray) (i : Int) (hi : Lib.indexByte s.data.toList 10 = i) (w : World) : Calls Try.prog 22 #[.string s, .int .u8 10] w fun e w' => e = .returned (.int .i64 i) ∧ w = w' := by
  have hc := ib_inner s i hi w
  go_enter Try.func22, Try.ntmps22
  go_wp2_with (go_at_call 25; refine hc.mono ?_; rintro e w' ⟨rfl, rfl⟩)
  go_ret
  exact ⟨rfl, rfl⟩

theorem ends_eq (l : List UInt8) : Lib.hasSuffix l [10] = endsNL l := by
  unfold Lib.hasSuffix endsNL
  rcases List.eq_nil_or_concat l with rfl | ⟨m, c, rfl⟩
  · rfl
  · rw [Bool.eq_iff_iff, List.isSuffixOf_iff_suffix]
    simp only [List.concat_eq_append, List.getLast?_append, List.getLast?_singleton, Option.some_or, Option.some.injEq, decide_eq_true_eq]
    constructor
    · rintro ⟨t, h⟩
      have := List.append_inj_right' h rfl
      simpa using this.symm
    · rintro rfl
      exact ⟨m, rfl⟩

set_option maxHeartbeats 1000000 in
theorem hs_inner (s p : ByteArray) (w : World) (hs : s.size ≤ 9223372036854775807) :
    Calls Try.prog 26 #[.string s, .string p] w fun e w' => e = .returned (.bool (Lib.hasSuffix s.data.toList p.data.toList)) ∧ w = w' := by
  rw [← Lib.hasSuffix_raw]
  have hlo : p.size ≤ s.size → ((s.size : Int) - (p.size : Int) + 9223372036854775808) % 18446744073709551616 - 9223372036854775808 = ((s.size - p.size : Nat) : Int) := fun _ => by omega
  go_enter Try.func26, Try.ntmps26
  go_wp2
  · have h : p.size ≤ s.size := by assumption
    go_ret
    refine ⟨?_, rfl⟩
    show Ending.returned (Value.bool ((s.extract (s.size - p.size) s.size).toList == p.toList)) = _
    simp [h]
  · have h : ¬ p.size ≤ s.size := by assumption
    go_ret
    refine ⟨?_, rfl⟩
    show Ending.returned (Value.bool false) = _
    simp [h]

set_option maxHeartbeats 400000 in
theorem hs_any (s : ByteArray) (w : World) (hs : s.size ≤ 9223372036854775807) :
    Calls Try.prog 24 #[.string s, .string ⟨#[10]⟩] w fun e w' => e = .returned (.bool (endsNL s.data.toList)) ∧ w = w' := by
  have hc := hs_inner s ⟨#[10]⟩ w hs
  rw [show (⟨#[10]⟩ : ByteArray).data.toList = [10] from rfl, ends_eq] at hc
  go_enter Try.func24, Try.ntmps24
  go_wp2_with (go_at_call 26; refine hc.mono ?_; rintro e w' ⟨rfl, rfl⟩)
  go_ret
  exact ⟨rfl, rfl⟩

/-! ### addText -/
theorem extract_list (t : ByteArray) (a b : Nat) : (t.extract a b).data.toList = (t.data.toList.take b).drop a := by
  rw [ByteArray.data_extract, Array.toList_extract, List.extract_eq_take_drop, List.drop_take]

theorem ba_eq (t : ByteArray) (l : List UInt8) (h : t.data.toList = l) : t = ba l := by
  subst h
  rfl

/-- The first line of a text that is not empty, and the rest, as the program cuts them. -/
theorem cut_line (t : ByteArray) : ∃ (i : Int) (pc rs : ByteArray), Lib.indexByte t.data.toList 10 = i ∧ pc.data.toList = line1 t.data.toList ∧ rs.data.toList = t.data.toList.drop (line1 t.data.toList).length ∧
    (∀ w, (Instr.slice 9 (.string t) (some (.int .i64 (pc.size : Int))) none none).run Try.prog w = .ok (.string rs) w) ∧
    ((i = -1 ∧ pc = t) ∨ ∃ k : Nat, i = k ∧ k < t.size ∧ ∀ w, (Instr.slice 9 (.string t) none (some (.int .i64 ((k : Int) + 1))) none).run Try.prog w = .ok (.string pc) w) := by
  have hsz : t.data.toList.length = t.size := by simp
  have hrs : ∀ (pc : ByteArray) (w : World), pc.size ≤ t.size → (Instr.slice 9 (.string t) (some (.int .i64 (pc.size : Int))) none none).run Try.prog w = .ok (.string (t.extract pc.size t.size)) w := fun pc w h => run_slice_string_l w 9 t (by kernel_rfl) .i64 (pc.size : Int) (by omega) (by omega)
  have hrl : ∀ (pc : ByteArray), pc.data.toList = line1 t.data.toList → (t.extract pc.size t.size).data.toList = t.data.toList.drop (line1 t.data.toList).length := fun pc h => by
    rw [extract_list, ← hsz, List.take_length, ← h]
    congr 1
  rcases line1_index t.data.toList with ⟨h1, h2⟩ | ⟨k, h1, h2, h3⟩
  · exact ⟨-1, t, t.extract t.size t.size, h1, h2.symm, hrl t h2.symm, fun w => hrs t w (Nat.le_refl _), .inl ⟨rfl, rfl⟩⟩
  · have hpc : (t.extract 0 (k + 1)).data.toList = line1 t.data.toList := by rw [extract_list, h3]; rfl
    have hps : (t.extract 0 (k + 1)).size ≤ t.size := by
      rw [show (t.extract 0 (k + 1)).size = (t.extract 0 (k + 1)).data.toList.length from by simp, hpc, ← hsz]
      exact line1_le _
    refine ⟨k, t.extract 0 (k + 1), _, h1, hpc, hrl _ hpc, fun w => hrs _ w hps, .inr ⟨k, rfl, by omega, fun w => ?_⟩⟩
    exact run_slice_string_h w 9 t (by kernel_rfl) .i64 ((k : Int) + 1) (by omega) (by omega)

end Go.Proofs.Qxb6602523a
