/-
  SEAT b6003633a: THE PLAIN LAW, WITH NO Go IN IT. 'qc f k': how many of the first k numbers are 34 (a quote). 'best f k': the greatest r ≤ k such that number r-1 is 10 (a line break) and the first r hold an even number of quotes; 0 where there is none.
-/
namespace Go.Proofs.Qxb6003633a.Math

def qc (f : Nat → Int) : Nat → Nat
  | 0 => 0
  | k + 1 => qc f k + (if f k = 34 then 1 else 0)

def best (f : Nat → Int) : Nat → Nat
  | 0 => 0
  | k + 1 => if f k = 10 ∧ qc f k % 2 = 0 then k + 1 else best f k

theorem qc_le (f : Nat → Int) (k : Nat) : qc f k ≤ k := by
  induction k with
  | zero => exact Nat.le_refl _
  | succ k ih => unfold qc; split <;> omega

theorem qc_mono (f : Nat → Int) (i k : Nat) (h : i ≤ k) : qc f i ≤ qc f k := by
  induction k with
  | zero => have : i = 0 := by omega
            subst this; exact Nat.le_refl _
  | succ k ih =>
    by_cases e : i = k + 1
    · subst e; exact Nat.le_refl _
    · have := ih (by omega)
      have e2 : qc f (k + 1) = qc f k + (if f k = 34 then 1 else 0) := rfl
      omega

theorem best_le (f : Nat → Int) (k : Nat) : best f k ≤ k := by
  induction k with
  | zero => exact Nat.le_refl _
  | succ k ih => unfold best; split <;> omega

theorem best_hit (f : Nat → Int) (k : Nat) (h1 : f k = 10) (h2 : qc f k % 2 = 0) : best f (k + 1) = k + 1 := by
  unfold best; rw [if_pos ⟨h1, h2⟩]

theorem best_odd (f : Nat → Int) (k : Nat) (h2 : ¬ qc f k % 2 = 0) : best f (k + 1) = best f k := by
  rw [best]; rw [if_neg (fun h => h2 h.2)]

theorem best_no (f : Nat → Int) (k : Nat) (h1 : ¬ f k = 10) : best f (k + 1) = best f k := by
  rw [best]; rw [if_neg (fun h => h1 h.1)]

theorem qc_hit (f : Nat → Int) (k : Nat) (h : f k = 34) : qc f (k + 1) = qc f k + 1 := by
  rw [qc]; rw [if_pos h]

theorem qc_no (f : Nat → Int) (k : Nat) (h : ¬ f k = 34) : qc f (k + 1) = qc f k := by
  rw [qc]; rw [if_neg h]; rfl

/-- No line break from i on to e: 'best' stands still. -/
theorem best_skip (f : Nat → Int) (i e : Nat) (h : i ≤ e) (hn : ∀ j, i ≤ j → j < e → ¬ f j = 10) : best f e = best f i := by
  induction e with
  | zero => have : i = 0 := by omega
            subst this; rfl
  | succ e ih =>
    by_cases he : i = e + 1
    · subst he; rfl
    · rw [best_no f e (hn e (by omega) (by omega))]
      exact ih (by omega) (fun j a b => hn j a (by omega))

theorem best_zero (f : Nat → Int) (e : Nat) (hn : ∀ j, j < e → ¬ f j = 10) : best f e = 0 :=
  best_skip f 0 e (Nat.zero_le _) (fun j _ h => hn j h)

theorem best_mono (f : Nat → Int) (i k : Nat) (h : i ≤ k) : best f i ≤ best f k := by
  induction k with
  | zero => have : i = 0 := by omega
            subst this; exact Nat.le_refl _
  | succ k ih =>
    by_cases e : i = k + 1
    · subst e; exact Nat.le_refl _
    · have h1 := ih (by omega)
      have h2 := best_le f k
      have e2 : best f (k + 1) = if f k = 10 ∧ qc f k % 2 = 0 then k + 1 else best f k := rfl
      rw [e2]
      split <;> omega

/-- 'best' is a fixed point. -/
theorem best_best (f : Nat → Int) (k : Nat) : best f (best f k) = best f k := by
  induction k with
  | zero => rfl
  | succ k ih =>
    by_cases h : f k = 10 ∧ qc f k % 2 = 0
    · rw [best_hit f k h.1 h.2, best_hit f k h.1 h.2]
    · have e : best f (k + 1) = best f k := by rw [best, if_neg h]
      rw [e]; exact ih

/-- Two lists that agree on the first k numbers. -/
theorem qc_congr (f g : Nat → Int) (k : Nat) (h : ∀ j, j < k → f j = g j) : qc f k = qc g k := by
  induction k with
  | zero => rfl
  | succ k ih => rw [qc, qc, ih (fun j hj => h j (by omega)), h k (by omega)]

theorem best_congr (f g : Nat → Int) (k : Nat) (h : ∀ j, j < k → f j = g j) : best f k = best g k := by
  induction k with
  | zero => rfl
  | succ k ih => rw [best, best, ih (fun j hj => h j (by omega)), h k (by omega), qc_congr f g k (fun j hj => h j (by omega))]

/-- The count of 34 among the numbers i .. i+m-1. -/
theorem count_between (f : Nat → Int) (i m : Nat) : (((List.range m).map (fun j => f (i + j))).filter (fun x => decide (x = 34))).length + qc f i = qc f (i + m) := by
  induction m with
  | zero => simp
  | succ m ih =>
    rw [List.range_succ, List.map_append, List.filter_append, List.length_append, show i + (m + 1) = (i + m) + 1 from rfl, qc, ← ih]
    by_cases hq : f (i + m) = 34
    · rw [if_pos hq]; simp only [List.map_cons, List.map_nil, List.filter_cons, List.filter_nil, hq, decide_true, if_true, List.length_cons, List.length_nil]; omega
    · rw [if_neg hq]; simp only [List.map_cons, List.map_nil, List.filter_cons, List.filter_nil, hq, decide_false]
      have : (if false = true then [f (i + m)] else []).length = 0 := rfl
      omega

/-- The place of the last number 10 among the first k; -1 where there is none. -/
def lastBreak (f : Nat → Int) : Nat → Int
  | 0 => -1
  | k + 1 => if f k = 10 then k else lastBreak f k

theorem lastBreak_hit (f : Nat → Int) (k : Nat) (h : f k = 10) : lastBreak f (k + 1) = k := by rw [lastBreak, if_pos h]
theorem lastBreak_no (f : Nat → Int) (k : Nat) (h : ¬ f k = 10) : lastBreak f (k + 1) = lastBreak f k := by rw [lastBreak, if_neg h]

theorem lastBreak_spec (f : Nat → Int) (k : Nat) : (lastBreak f k = -1 ∧ ∀ j, j < k → ¬ f j = 10) ∨ ∃ i : Nat, i < k ∧ lastBreak f k = i ∧ f i = 10 ∧ ∀ j, i < j → j < k → ¬ f j = 10 := by
  induction k with
  | zero => exact .inl ⟨rfl, fun j hj => absurd hj (Nat.not_lt_zero _)⟩
  | succ k ih =>
    by_cases h : f k = 10
    · exact .inr ⟨k, by omega, lastBreak_hit f k h, h, fun j a b => by omega⟩
    · rw [lastBreak_no f k h]
      rcases ih with ⟨h1, h2⟩ | ⟨i, h1, h2, h3, h4⟩
      · refine .inl ⟨h1, fun j hj => ?_⟩
        by_cases e : j = k
        · subst e; exact h
        · exact h2 j (by omega)
      · refine .inr ⟨i, by omega, h2, h3, fun j a b => ?_⟩
        by_cases e : j = k
        · subst e; exact h
        · exact h4 j a (by omega)

/-- What a round of the backward search finds. -/
theorem back_none (f : Nat → Int) (e : Nat) (h : ∀ j, j < e → ¬ f j = 10) : best f e = 0 := best_zero f e h
theorem back_even (f : Nat → Int) (i e : Nat) (hi : i < e) (h10 : f i = 10) (h : ∀ j, i < j → j < e → ¬ f j = 10) (hq : qc f i % 2 = 0) : best f e = i + 1 := by
  rw [best_skip f (i + 1) e (by omega) (fun j a b => h j (by omega) b)]
  exact best_hit f i h10 hq
theorem back_odd (f : Nat → Int) (i e : Nat) (hi : i < e) (h : ∀ j, i < j → j < e → ¬ f j = 10) (hq : ¬ qc f i % 2 = 0) : best f e = best f i := by
  rw [best_skip f (i + 1) e (by omega) (fun j a b => h j (by omega) b)]
  exact best_odd f i hq

end Go.Proofs.Qxb6003633a.Math
