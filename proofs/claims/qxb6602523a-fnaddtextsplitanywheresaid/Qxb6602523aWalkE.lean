/-
  SEAT b6602523a: the wrappers, the readers, sameNodes.
-/
import Derived.Test.Qxb6602523aWalkD
namespace Go.Proofs.Qxb6602523a
open Go.RowKit Math

theorem Pz.later {B P F : Nat} {w w' : World} {N : List Node} {fl : Bool} (h : Pz B w P F N fl) (hb : Below w.heap.size w w') : Pz B w' P F N fl := by
  obtain ⟨pv, cv, h⟩ := h
  have hPl : P < w.heap.size := block_lt_of_cell (cell_of_row w P 7 _ _ _ h.pb)
  have hFl : F < w.heap.size := block_lt_of_cell (cell_of_row w F 7 _ _ _ h.fb)
  exact ⟨pv, cv, by rw [hb.block P hPl]; exact h.pb, by rw [hb.block F hFl]; exact h.fb, World.ownsRow.kept h.own (row := none) ⟨hb.os, hb.tape, hb.output, hb.size, fun j hj _ => hb.block j hj⟩ (by cases hv : (Value.slice pv N.length cv).ownBlock <;> simp), h.bp, h.bf⟩

theorem ncells_get (N : List Node) : ∀ (i : Nat) (d : Node), N[i]? = some d → (ncells N)[i * 7]? = some (.int .i64 d.1) ∧ (ncells N)[i * 7 + 1]? = some (.string d.2) := by
  induction N with
  | nil => intro i d h; simp at h
  | cons e N ih =>
    intro i d h
    cases i with
    | zero =>
      have h : e = d := by simpa using h
      subst h
      exact ⟨rfl, rfl⟩
    | succ i =>
      have h := ih i d (by simpa using h)
      have e1 : (ncell e.1 e.2).length = 7 := rfl
      rw [show (i + 1) * 7 = i * 7 + 7 from by omega]
      refine ⟨?_, ?_⟩
      · rw [ncells, List.getElem?_append_right (by omega), e1, Nat.add_sub_cancel]; exact h.1
      · rw [ncells, List.getElem?_append_right (by omega), e1, show i * 7 + 7 + 1 - 7 = i * 7 + 1 from by omega]; exact h.2

theorem Pz.len {B P F : Nat} {w : World} {N : List Node} {fl : Bool} (h : Pz B w P F N fl) : ∃ pv cv, w.cell? ⟨P, 8, none⟩ = some (.slice (some ⟨F, 0, none⟩) 1 1) ∧ w.cell? ⟨F, 7, none⟩ = some (.slice pv N.length cv) := by
  obtain ⟨pv, cv, h⟩ := h
  exact ⟨pv, cv, cell_of_row w P 8 _ _ _ h.pb, cell_of_row w F 7 _ _ _ h.fb⟩

theorem Pz.at {B P F : Nat} {w : World} {N : List Node} {fl : Bool} (h : Pz B w P F N fl) (i : Nat) (d : Node) (hd : N[i]? = some d) :
    ∃ g cv, w.cell? ⟨P, 8, none⟩ = some (.slice (some ⟨F, 0, none⟩) 1 1) ∧ w.cell? ⟨F, 7, none⟩ = some (.slice (some ⟨g, 0, none⟩) N.length cv) ∧ w.cell? ⟨g, i * 7, none⟩ = some (.int .i64 d.1) ∧ w.cell? ⟨g, i * 7 + 1, none⟩ = some (.string d.2) ∧ i < N.length := by
  obtain ⟨pv, cv, h⟩ := h
  have hi : i < N.length := (List.getElem?_eq_some_iff.1 hd).1
  have hn := ncells_get N i d hd
  have hl := ncells_length N
  obtain ⟨g, rfl⟩ : ∃ g, pv = some ⟨g, 0, none⟩ := by
    rcases h.own.2 with ⟨hv, _⟩ | ⟨g, cap, cur, hv, _⟩
    · injection hv with e1 e2 e3
      omega
    · injection hv with e1 e2 e3
      exact ⟨g, e1⟩
  refine ⟨g, cv, cell_of_row w P 8 _ _ _ h.pb, cell_of_row w F 7 _ _ _ h.fb, ?_, ?_, hi⟩
  · rw [World.ownsRow.cellAt h.own (i * 7) (by omega)]; exact hn.1
  · rw [World.ownsRow.cellAt h.own (i * 7 + 1) (by omega)]; exact hn.2

set_option maxHeartbeats 400000 in
theorem zzAdd (B P F : Nat) (S : ByteArray) (N : List Node) (fl : Bool) (N2 : List Node) (f2 : Bool) (w : World) (hn : N.length + 2 * S.size ≤ 4194304) (h : Pz B w P F N fl) (hA : addN S.size S.data.toList N fl = (N2, f2)) :
    Calls Try.prog 8 #[.pointer (some ⟨P, 0, none⟩), .string S] w fun e w' => e = .returned (.tuple #[]) ∧ Pz B w' P F N2 f2 ∧ Below B w w' := by
  have hc := addText_any B P F S N fl w hn h
  rw [hA] at hc
  clear h hA
  go_enter Try.func8, Try.ntmps8
  go_wp2_with (go_at_call 20; refine hc.mono ?_; rintro e w' ⟨rfl, h1, h2⟩)
  go_end0
  exact ⟨rfl, h1, h2⟩

set_option maxHeartbeats 400000 in
theorem zzMark (B P F : Nat) (N : List Node) (fl : Bool) (w : World) (hn : N.length ≤ 4194304) (h : Pz B w P F N fl) :
    Calls Try.prog 18 #[.pointer (some ⟨P, 0, none⟩)] w fun e w' => e = .returned (.tuple #[]) ∧ Pz B w' P F (mk N fl) false ∧ Below B w w' := by
  have hc := mark_any B P F N fl w hn h
  clear h
  go_enter Try.func18, Try.ntmps18
  go_wp2_with (go_at_call 21; refine hc.mono ?_; rintro e w' ⟨rfl, h1, h2⟩)
  go_end0
  exact ⟨rfl, h1, h2⟩

set_option maxHeartbeats 400000 in
theorem zzNew (fl : Bool) (w : World) :
    Calls Try.prog 7 #[.bool fl, .int .i64 1] w fun e w' => e = .returned (.pointer (some ⟨w.heap.size + 1, 0, none⟩)) ∧ Pz w.heap.size w' (w.heap.size + 1) w.heap.size [] fl ∧ Below w.heap.size w w' :=
  (new_any fl w).mono fun _ _ ⟨h1, h2, h3⟩ => ⟨h1, ⟨none, 0, h2⟩, h3⟩

set_option maxHeartbeats 400000 in
theorem zzFlag (B P F : Nat) (N : List Node) (fl : Bool) (w : World) (h : Pz B w P F N fl) :
    Calls Try.prog 14 #[.pointer (some ⟨P, 0, none⟩)] w fun e w' => e = .returned (.bool fl) ∧ w = w' := by
  obtain ⟨g0, _, _⟩ := h.flag
  go_enter Try.func14, Try.ntmps14
  go_wp2
  go_ret
  exact ⟨rfl, rfl⟩

set_option maxHeartbeats 400000 in
theorem zzLen (B P F : Nat) (N : List Node) (fl : Bool) (w : World) (h : Pz B w P F N fl) :
    Calls Try.prog 9 #[.pointer (some ⟨P, 0, none⟩), .int .i64 0] w fun e w' => e = .returned (.int .i64 N.length) ∧ w = w' := by
  obtain ⟨pv, cv, g0, g1⟩ := h.len
  have hz : (0 : Int) < 1 := by omega
  go_enter Try.func9, Try.ntmps9
  go_wp2
  go_ret
  exact ⟨rfl, rfl⟩

set_option maxHeartbeats 400000 in
theorem zzKind (B P F : Nat) (N : List Node) (fl : Bool) (w : World) (h : Pz B w P F N fl) (i : Nat) (d : Node) (hd : N[i]? = some d) :
    Calls Try.prog 12 #[.pointer (some ⟨P, 0, none⟩), .int .i64 0, .int .i64 i] w fun e w' => e = .returned (.int .i64 d.1) ∧ w = w' := by
  obtain ⟨g, cv, g0, g1, g2, g3, hi⟩ := h.at i d hd
  have hz : (0 : Int) < 1 := by omega
  have hz1 : (i : Int) < (N.length : Int) := by omega
  have hz2 : (0 : Int) ≤ (i : Int) := by omega
  clear h hd g3
  go_enter Try.func12, Try.ntmps12
  go_wp2
  go_ret
  exact ⟨rfl, rfl⟩

set_option maxHeartbeats 400000 in
theorem zzText (B P F : Nat) (N : List Node) (fl : Bool) (w : World) (h : Pz B w P F N fl) (i : Nat) (d : Node) (hd : N[i]? = some d) :
    Calls Try.prog 13 #[.pointer (some ⟨P, 0, none⟩), .int .i64 0, .int .i64 i] w fun e w' => e = .returned (.string d.2) ∧ w = w' := by
  obtain ⟨g, cv, g0, g1, g2, g3, hi⟩ := h.at i d hd
  have hz : (0 : Int) < 1 := by omega
  have hz1 : (i : Int) < (N.length : Int) := by omega
  have hz2 : (0 : Int) ≤ (i : Int) := by omega
  clear h hd g2
  go_enter Try.func13, Try.ntmps13
  go_wp2
  go_ret
  exact ⟨rfl, rfl⟩

set_option maxHeartbeats 1000000 in
theorem sameNodes_any (B1 B2 P1 P2 F1 F2 : Nat) (N : List Node) (f1 f2 : Bool) (w : World) (hn : N.length ≤ 4194304) (h1 : Pz B1 w P1 F1 N f1) (h2 : Pz B2 w P2 F2 N f2) :
    Calls Try.prog 19 #[.pointer (some ⟨P1, 0, none⟩), .pointer (some ⟨P2, 0, none⟩)] w fun e w' => e = .returned (.bool true) ∧ w = w' := by
  have lx : ∀ p, p = P1 ∨ p = P2 → Calls Try.prog 9 #[.pointer (some ⟨p, 0, none⟩), .int .i64 0] w fun e w' => e = .returned (.int .i64 N.length) ∧ w = w' := fun p hp => by
    rcases hp with rfl | rfl
    · exact zzLen _ _ _ _ _ _ h1
    · exact zzLen _ _ _ _ _ _ h2
  have kx : ∀ (i : Nat) (d : Node), N[i]? = some d → ∀ p, p = P1 ∨ p = P2 → Calls Try.prog 12 #[.pointer (some ⟨p, 0, none⟩), .int .i64 0, .int .i64 i] w fun e w' => e = .returned (.int .i64 d.1) ∧ w = w' := fun i d hd p hp => by
    rcases hp with rfl | rfl
    · exact zzKind _ _ _ _ _ _ h1 i d hd
    · exact zzKind _ _ _ _ _ _ h2 i d hd
  have tx : ∀ (i : Nat) (d : Node), N[i]? = some d → ∀ p, p = P1 ∨ p = P2 → Calls Try.prog 13 #[.pointer (some ⟨p, 0, none⟩), .int .i64 0, .int .i64 i] w fun e w' => e = .returned (.string d.2) ∧ w = w' := fun i d hd p hp => by
    rcases hp with rfl | rfl
    · exact zzText _ _ _ _ _ _ h1 i d hd
    · exact zzText _ _ _ _ _ _ h2 i d hd
  clear h1 h2
  go_enter Try.func19, Try.ntmps19
  go_wp2_with (go_at_call 9; refine (lx _ (by simp only [true_or, or_true])).mono ?_; rintro e w' ⟨rfl, rfl⟩)
  clear lx
  go_loopg [6] N.length (fun gk i wr => ∃ k : Nat, k ≤ N.length ∧ N.length - k = gk ∧ i = .int .i64 k ∧ w = wr)
  case atStart => exact ⟨0, Nat.zero_le _, rfl, rfl, rfl⟩
  case round =>
    obtain ⟨k, hk, rfl, rfl, rfl⟩ := hrel
    by_cases hkn : k < N.length
    · have a1 := kx k _ (List.getElem?_eq_getElem hkn)
      have a2 := tx k _ (List.getElem?_eq_getElem hkn)
      generalize N[k] = d at a1 a2
      obtain ⟨x, y⟩ := d
      have hz : (k : Int) < (N.length : Int) := by omega
      clear kx tx
      go_wp2_with (first | (go_at_call 12; refine (a1 _ (by simp only [true_or, or_true])).mono ?_; rintro e w' ⟨rfl, rfl⟩) | (go_at_call 13; refine (a2 _ (by simp only [true_or, or_true])).mono ?_; rintro e w' ⟨rfl, rfl⟩))
      go_roundg (N.length - (k + 1))
      case measure => go_light; omega
      case rel => exact ⟨k + 1, by omega, rfl, by go_num, rfl⟩
    · have hz : ¬ (k : Int) < (N.length : Int) := by omega
      clear kx tx
      go_wp2
      go_ret
      exact ⟨rfl, rfl⟩

set_option maxHeartbeats 400000 in
theorem zz17 (b : Bool) (s : ByteArray) (r : Bool) (hr : decide (s.size ≤ 1048576) = r) (w : World) : Calls Try.prog 17 #[.bool b, .string s] w fun e w' => e = .returned (.bool r) ∧ w = w' := by
  by_cases h : s.size ≤ 1048576
  · rw [decide_eq_true h] at hr
    subst hr
    have h1 : ¬ (1048576 : Int) < (s.size : Int) := by omega
    go_enter Try.func17, Try.ntmps17
    go_wp2
    go_ret
    exact ⟨rfl, rfl⟩
  · rw [decide_eq_false h] at hr
    subst hr
    have h1 : (1048576 : Int) < (s.size : Int) := by omega
    go_enter Try.func17, Try.ntmps17
    go_wp2
    go_ret
    exact ⟨rfl, rfl⟩
end Go.Proofs.Qxb6602523a
