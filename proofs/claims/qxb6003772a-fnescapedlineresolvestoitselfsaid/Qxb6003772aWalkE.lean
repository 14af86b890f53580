/-
  SEAT b6003772a: scan computes 'scan'.
-/
import Derived.Test.Qxb6003772aWalkD
namespace Go.Proofs.Qxb6003772a
open Go.RowKit Math

/-! ### The plain side of a round -/
def Res (L T : List Int) (D : List (Nat × Bool)) (a k : Nat) : Prop :=
  scan L = (T ++ ((L.drop a).take (k - a) ++ (scn (L.drop k) (T.length + (k - a))).1), D ++ (scn (L.drop k) (T.length + (k - a))).2)

theorem res_at (L : List Int) (h : List.isPrefixOf [64, 64] L = true) : Res L [] [] 1 2 ∧ 2 ≤ L.length := by
  match L, h with
  | [], h => simp [List.isPrefixOf] at h
  | [x], h => simp [List.isPrefixOf] at h
  | x :: y :: r, h =>
    simp [List.isPrefixOf] at h
    obtain ⟨rfl, rfl⟩ := h
    refine ⟨?_, by simp⟩
    unfold Res
    rw [scan_at]
    rfl

theorem res_no (L : List Int) (h : List.isPrefixOf [64, 64] L = false) : Res L [] [] 0 0 := by
  unfold Res
  rw [scan_no L (fun r e => by subst e; simp [List.isPrefixOf] at h)]
  simp

theorem drop_two (L : List Int) (k : Nat) (h : k + 1 < L.length) : L.drop k = nth L k :: nth L (k + 1) :: L.drop (k + 2) := by
  rw [List.drop_eq_getElem_cons (by omega), List.drop_eq_getElem_cons (by omega), nth_eq L k, nth_eq L (k + 1)]
theorem drop_one (L : List Int) (k : Nat) (h : k < L.length) : L.drop k = nth L k :: L.drop (k + 1) := by
  rw [List.drop_eq_getElem_cons (by omega), nth_eq L k]
theorem take_next (L : List Int) (a k : Nat) (ha : a ≤ k) (h : k < L.length) : (L.drop a).take (k + 1 - a) = (L.drop a).take (k - a) ++ [nth L k] := by
  rw [show k + 1 - a = (k - a) + 1 from by omega, List.take_succ_eq_append_getElem (by rw [List.length_drop]; omega), List.getElem_drop, ← nth_eq L k h]
  congr 2
  have : a + (k - a) = k := by omega
  simp only [this]

theorem res_pair {L T : List Int} {D : List (Nat × Bool)} {a k : Nat} (R : Res L T D a k) (ha : a ≤ k) (h : k + 1 < L.length) (hp : pair (nth L k) (nth L (k + 1)) = true) :
    Res L T (D ++ [(T.length + (k - a), decide (nth L k = 60))]) a (k + 1) := by
  unfold Res at R ⊢
  rw [R, drop_two L k h, scn_pair _ _ hp, ← drop_one L (k + 1) h, take_next L a k ha (by omega), show T.length + (k + 1 - a) = T.length + (k - a) + 1 from by omega]
  simp only [List.append_assoc, List.cons_append, List.nil_append]

theorem res_plain {L T : List Int} {D : List (Nat × Bool)} {a k : Nat} (R : Res L T D a k) (ha : a ≤ k) (h : k + 1 < L.length) (hp : pair (nth L k) (nth L (k + 1)) = false) (h2 : nth L k = 64 → k + 2 < L.length → pair (nth L (k + 1)) (nth L (k + 2)) = false) :
    Res L T D a (k + 1) := by
  unfold Res at R ⊢
  have hs : scn (L.drop k) (T.length + (k - a)) = (nth L k :: (scn (L.drop (k + 1)) (T.length + (k - a) + 1)).1, (scn (L.drop (k + 1)) (T.length + (k - a) + 1)).2) := by
    rw [drop_one L k (by omega)]
    refine scn_plain _ _ ?_ ?_
    · intro y hy
      rw [drop_one L (k + 1) h] at hy
      cases hy
      exact hp
    · intro e
      rw [drop_one L (k + 1) h]
      by_cases h3 : k + 2 < L.length
      · rw [drop_one L (k + 2) h3]
        exact h2 e h3
      · rw [List.drop_of_length_le (by omega)]
        rfl
  rw [R, hs, take_next L a k ha (by omega), show T.length + (k + 1 - a) = T.length + (k - a) + 1 from by omega]
  simp only [List.append_assoc, List.cons_append, List.nil_append]

theorem res_esc {L T : List Int} {D : List (Nat × Bool)} {a k : Nat} (R : Res L T D a k) (ha : a ≤ k) (h : k + 2 < L.length) (h64 : nth L k = 64) (hp : pair (nth L (k + 1)) (nth L (k + 2)) = true) :
    Res L (T ++ (L.drop a).take (k - a)) D (k + 1) (k + 3) := by
  unfold Res at R ⊢
  have hlen : (T ++ (L.drop a).take (k - a)).length = T.length + (k - a) := by rw [List.length_append, List.length_take, List.length_drop]; omega
  rw [R, drop_two L k (by omega), drop_one L (k + 2) h, h64, scn_esc _ _ hp, hlen, show k + 3 - (k + 1) = 2 from by omega]
  have ht : (L.drop (k + 1)).take 2 = [nth L (k + 1), nth L (k + 2)] := by rw [drop_two L (k + 1) (by omega)]; rfl
  rw [ht]
  simp only [List.append_assoc, List.cons_append, List.nil_append]

theorem res_end {L T : List Int} {D : List (Nat × Bool)} {a k : Nat} (R : Res L T D a k) (ha : a ≤ k) (hk : k ≤ L.length) (h : L.length ≤ k + 1) : scan L = (T ++ L.drop a, D) := by
  unfold Res at R
  have hs : scn (L.drop k) (T.length + (k - a)) = (L.drop k, []) := by
    by_cases e : k = L.length
    · rw [List.drop_of_length_le (by omega)]; rfl
    · rw [drop_one L k (by omega), List.drop_of_length_le (by omega)]; rfl
  have hd : (L.drop a).take (k - a) ++ L.drop k = L.drop a := by
    have := List.take_append_drop (k - a) (L.drop a)
    rw [List.drop_drop, show a + (k - a) = k from by omega] at this
    exact this
  rw [R, hs, hd, List.append_nil]

theorem res_bare {L : List Int} {a k : Nat} (R : Res L [] [] a k) (ha : a ≤ k) (h60 : (60 : Int) ∉ L) (h62 : (62 : Int) ∉ L) : scan L = (L.drop a, []) := by
  unfold Res at R
  have hs : scn (L.drop k) (([] : List Int).length + (k - a)) = (L.drop k, []) := scn_none _ (fun x hx => ⟨fun e => h60 (by rw [← e]; exact mem_drop hx), fun e => h62 (by rw [← e]; exact mem_drop hx)⟩) _
  have hd : (L.drop a).take (k - a) ++ L.drop k = L.drop a := by
    have := List.take_append_drop (k - a) (L.drop a)
    rw [List.drop_drop, show a + (k - a) = k from by omega] at this
    exact this
  rw [R, hs, hd]
  rfl
end Go.Proofs.Qxb6003772a
