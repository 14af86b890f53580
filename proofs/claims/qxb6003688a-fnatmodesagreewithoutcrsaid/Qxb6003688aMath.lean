/-
  SEAT b6003688a: THE PLAIN LAW. 'ct v f k': how many of the first k numbers are v. 'lastOf v f k': the place of the last of them, or -1.
-/
namespace Go.Proofs.Qxb6003688a.Math

def ct (v : Int) (f : Nat → Int) : Nat → Nat
  | 0 => 0
  | k + 1 => ct v f k + (if f k = v then 1 else 0)

theorem ct_le (v : Int) (f : Nat → Int) (k : Nat) : ct v f k ≤ k := by
  induction k with
  | zero => exact Nat.le_refl _
  | succ k ih => unfold ct; split <;> omega

theorem ct_none (v : Int) (f : Nat → Int) (k : Nat) (h : ∀ j, j < k → ¬ f j = v) : ct v f k = 0 := by
  induction k with
  | zero => rfl
  | succ k ih => rw [ct, ih (fun j hj => h j (by omega)), if_neg (h k (by omega))]

theorem ct_filter (v : Int) (f : Nat → Int) (m : Nat) : (((List.range m).map f).filter (fun x => decide (x = v))).length = ct v f m := by
  induction m with
  | zero => simp [ct]
  | succ m ih =>
    rw [List.range_succ, List.map_append, List.filter_append, List.length_append, ct, ← ih]
    by_cases hq : f m = v
    · rw [if_pos hq]; simp only [List.map_cons, List.map_nil, List.filter_cons, List.filter_nil, hq, decide_true, if_true, List.length_cons, List.length_nil]
    · rw [if_neg hq]; simp only [List.map_cons, List.map_nil, List.filter_cons, List.filter_nil, hq, decide_false]
      have : (if false = true then [f m] else []).length = 0 := rfl
      omega

def lastOf (v : Int) (f : Nat → Int) : Nat → Int
  | 0 => -1
  | k + 1 => if f k = v then k else lastOf v f k

theorem lastOf_hit (v : Int) (f : Nat → Int) (k : Nat) (h : f k = v) : lastOf v f (k + 1) = k := by rw [lastOf, if_pos h]
theorem lastOf_no (v : Int) (f : Nat → Int) (k : Nat) (h : ¬ f k = v) : lastOf v f (k + 1) = lastOf v f k := by rw [lastOf, if_neg h]
theorem lastOf_none (v : Int) (f : Nat → Int) (k : Nat) (h : ∀ j, j < k → ¬ f j = v) : lastOf v f k = -1 := by
  induction k with
  | zero => rfl
  | succ k ih => rw [lastOf_no v f k (h k (by omega)), ih (fun j hj => h j (by omega))]
theorem lastOf_spec (v : Int) (f : Nat → Int) (k : Nat) : (lastOf v f k = -1 ∧ ct v f k = 0) ∨ ∃ i : Nat, i < k ∧ lastOf v f k = i := by
  induction k with
  | zero => exact .inl ⟨rfl, rfl⟩
  | succ k ih =>
    by_cases h : f k = v
    · exact .inr ⟨k, by omega, lastOf_hit v f k h⟩
    · rw [lastOf_no v f k h, ct, if_neg h]
      rcases ih with h1 | ⟨i, h1, h2⟩
      · exact .inl h1
      · exact .inr ⟨i, by omega, h2⟩

end Go.Proofs.Qxb6003688a.Math
