/-
  SEAT b6602523a: THE PLAIN LAW: what addText and markLineStart make of a list of nodes and a flag.
-/
import Derived.Lib.Bytealg
namespace Go.Proofs.Qxb6602523a.Math

def ba (l : List UInt8) : ByteArray := ⟨l.toArray⟩

/-- The first line of a text, its newline with it. -/
def line1 : List UInt8 → List UInt8
  | [] => []
  | c :: l => if c = 10 then [c] else c :: line1 l

theorem line1_pos (l : List UInt8) (h : l ≠ []) : 0 < (line1 l).length := by
  match l, h with
  | c :: l, _ => unfold line1; split <;> simp

theorem line1_le (l : List UInt8) : (line1 l).length ≤ l.length := by
  induction l with
  | nil => exact Nat.le_refl _
  | cons c l ih => unfold line1; split <;> simp; omega

theorem line1_split (l : List UInt8) : line1 l ++ l.drop (line1 l).length = l := by
  induction l with
  | nil => rfl
  | cons c l ih =>
    unfold line1
    split
    · rfl
    · simp only [List.cons_append, List.length_cons, List.drop_succ_cons, ih]

theorem line1_index (l : List UInt8) : (Lib.indexByte l 10 = -1 ∧ line1 l = l) ∨ ∃ i : Nat, Lib.indexByte l 10 = i ∧ i < l.length ∧ line1 l = l.take (i + 1) := by
  induction l with
  | nil => exact .inl ⟨rfl, rfl⟩
  | cons c l ih =>
    unfold line1 Lib.indexByte
    by_cases h : c = 10
    · subst h
      exact .inr ⟨0, by simp, by simp, by simp⟩
    · have hb : (c == 10) = false := beq_eq_false_iff_ne.2 h
      rw [if_neg h, hb]
      rcases ih with ⟨h1, h2⟩ | ⟨i, h1, h2, h3⟩
      · left
        rw [h1, h2]
        exact ⟨rfl, rfl⟩
      · right
        refine ⟨i + 1, ?_, by simp; omega, by rw [h3]; rfl⟩
        rw [h1]
        have hi : ((i : Int) == -1) = false := beq_eq_false_iff_ne.2 (by omega)
        simp only [hi]
        rfl

def endsNL (l : List UInt8) : Bool := decide (l.getLast? = some 10)

def mk (N : List (Nat × ByteArray)) (fl : Bool) : List (Nat × ByteArray) := if fl then N ++ [(1, ⟨#[]⟩)] else N

theorem mk_false (N : List (Nat × ByteArray)) : mk N false = N := rfl
theorem mk_mk (N : List (Nat × ByteArray)) (fl : Bool) : mk (mk N fl) false = mk N fl := rfl
theorem mk_le (N : List (Nat × ByteArray)) (fl : Bool) : (mk N fl).length ≤ N.length + 1 := by unfold mk; split <;> simp

/-- addText, piece by piece. -/
def addN : Nat → List UInt8 → List (Nat × ByteArray) → Bool → List (Nat × ByteArray) × Bool
  | 0, _, N, fl => (N, fl)
  | f + 1, l, N, fl => if l = [] then (N, fl) else addN f (l.drop (line1 l).length) (mk N fl ++ [(0, ba (line1 l))]) (endsNL (line1 l))

theorem addN_nil (f : Nat) (N : List (Nat × ByteArray)) (fl : Bool) : addN f [] N fl = (N, fl) := by
  cases f with
  | zero => rfl
  | succ f => rw [addN, if_pos rfl]

theorem addN_step (f : Nat) (l : List UInt8) (N : List (Nat × ByteArray)) (fl : Bool) (h : l ≠ []) : addN (f + 1) l N fl = addN f (l.drop (line1 l).length) (mk N fl ++ [(0, ba (line1 l))]) (endsNL (line1 l)) := by rw [addN, if_neg h]

/-- A mark ahead of a text changes nothing. -/
theorem addN_mark (f : Nat) (l : List UInt8) (N : List (Nat × ByteArray)) (fl : Bool) (h : l ≠ []) : addN (f + 1) l (mk N fl) false = addN (f + 1) l N fl := by
  rw [addN_step f l _ _ h, addN_step f l _ _ h, mk_mk]

theorem addN_length (f : Nat) : ∀ (l : List UInt8) (N : List (Nat × ByteArray)) (fl : Bool), l.length ≤ f → (addN f l N fl).1.length ≤ N.length + 2 * l.length := by
  induction f with
  | zero => intro l N fl h; show N.length ≤ _; omega
  | succ f ih =>
    intro l N fl h
    by_cases he : l = []
    · rw [he, addN_nil]; show N.length ≤ _; omega
    · rw [addN_step f l N fl he]
      have h1 := line1_pos l he
      have h2 := line1_le l
      have h3 := mk_le N fl
      refine Nat.le_trans (ih _ _ _ (by rw [List.length_drop]; omega)) ?_
      rw [List.length_append, List.length_drop]
      simp only [List.length_cons, List.length_nil]
      omega

theorem addN_fuel (f g : Nat) : ∀ (l : List UInt8) (N : List (Nat × ByteArray)) (fl : Bool), l.length ≤ f → l.length ≤ g → addN f l N fl = addN g l N fl := by
  induction f generalizing g with
  | zero =>
    intro l N fl h _
    obtain rfl : l = [] := List.eq_nil_of_length_eq_zero (by omega)
    rw [addN_nil, addN_nil]
  | succ f ih =>
    intro l N fl h h'
    by_cases he : l = []
    · rw [he, addN_nil, addN_nil]
    · have h1 := line1_pos l he
      have h2 := line1_le l
      obtain ⟨g, rfl⟩ : ∃ k, g = k + 1 := ⟨g - 1, by omega⟩
      rw [addN_step f l N fl he, addN_step g l N fl he]
      exact ih g _ _ _ (by rw [List.length_drop]; omega) (by rw [List.length_drop]; omega)

/-! ### The trace of a list of nodes: the text it spells, and the places of its marks -/
structure Tr where
  text : List UInt8
  starts : List Nat

def tr1 (s : Tr) (d : Nat × ByteArray) : Tr := if d.1 = 1 then ⟨s.text, s.starts ++ [s.text.length]⟩ else ⟨s.text ++ d.2.data.toList, s.starts⟩
def trN (N : List (Nat × ByteArray)) : Tr := N.foldl tr1 ⟨[], []⟩

theorem trN_snoc (N : List (Nat × ByteArray)) (d : Nat × ByteArray) : trN (N ++ [d]) = tr1 (trN N) d := by unfold trN; rw [List.foldl_append]; rfl

/-- One byte at a time. -/
def ch (s : Tr × Bool) (c : UInt8) : Tr × Bool := (⟨s.1.text ++ [c], if s.2 then s.1.starts ++ [s.1.text.length] else s.1.starts⟩, decide (c = 10))

theorem ch_plain (l : List UInt8) (h : ∀ c ∈ l, c ≠ 10) : ∀ T : Tr, l.foldl ch (T, false) = (⟨T.text ++ l, T.starts⟩, false) := by
  induction l with
  | nil => intro T; simp
  | cons c l ih =>
    intro T
    have hc : decide (c = 10) = false := decide_eq_false (h c (by simp))
    rw [List.foldl_cons, show ch (T, false) c = (⟨T.text ++ [c], T.starts⟩, false) from by unfold ch; rw [hc]; rfl, ih (fun x hx => h x (by simp [hx]))]
    simp

/-- A line, byte by byte: the flag's mark at its head, the text, the new flag. -/
theorem ch_line (l : List UInt8) : ∀ (T : Tr) (fl : Bool), l ≠ [] → (line1 l).foldl ch (T, fl) = (⟨T.text ++ line1 l, if fl then T.starts ++ [T.text.length] else T.starts⟩, endsNL (line1 l)) := by
  induction l with
  | nil => intro T fl h; exact absurd rfl h
  | cons c l ih =>
    intro T fl _
    unfold line1
    by_cases h : c = 10
    · subst h
      rw [if_pos rfl]
      rfl
    · rw [if_neg h]
      rw [List.foldl_cons]
      have hc : decide (c = 10) = false := decide_eq_false h
      have e : ch (T, fl) c = (⟨T.text ++ [c], if fl then T.starts ++ [T.text.length] else T.starts⟩, false) := by unfold ch; rw [hc]
      rw [e]
      match l, ih with
      | [], _ =>
        have e2 : endsNL [c] = false := by unfold endsNL; simp [h]
        show (_, false) = _
        rw [show line1 [] = [] from rfl, e2]
      | d :: l, ih =>
        rw [ih _ false (by simp)]
        have hne : line1 (d :: l) ≠ [] := fun e => by have := line1_pos (d :: l) (by simp); rw [e] at this; simp at this
        have e2 : endsNL (c :: line1 (d :: l)) = endsNL (line1 (d :: l)) := by
          unfold endsNL
          match hm : line1 (d :: l), hne with
          | x :: m, _ => rw [List.getLast?_cons_cons]
        rw [e2]
        simp

theorem trN_mk (N : List (Nat × ByteArray)) (fl : Bool) : trN (mk N fl) = ⟨(trN N).text, if fl then (trN N).starts ++ [(trN N).text.length] else (trN N).starts⟩ := by
  unfold mk
  cases fl with
  | false => rfl
  | true => rw [if_pos rfl, trN_snoc]; rfl

/-- The trace of what addText makes: the bytes, one at a time. -/
theorem trN_addN (f : Nat) : ∀ (l : List UInt8) (N : List (Nat × ByteArray)) (fl : Bool), l.length ≤ f → (trN (addN f l N fl).1, (addN f l N fl).2) = l.foldl ch (trN N, fl) := by
  induction f with
  | zero =>
    intro l N fl h
    obtain rfl : l = [] := List.eq_nil_of_length_eq_zero (by omega)
    rfl
  | succ f ih =>
    intro l N fl h
    by_cases he : l = []
    · subst he; rw [addN_nil]; rfl
    · have h1 := line1_pos l he
      rw [addN_step f l N fl he, ih _ _ _ (by rw [List.length_drop]; omega), trN_snoc, trN_mk]
      have hl : l.foldl ch (trN N, fl) = (l.drop (line1 l).length).foldl ch ((line1 l).foldl ch (trN N, fl)) := by
        rw [← List.foldl_append, line1_split]
      rw [hl, ch_line l (trN N) fl he]
      rfl

theorem fold_text (l : List UInt8) : ∀ s : Tr × Bool, (l.foldl ch s).1.text = s.1.text ++ l := by
  induction l with
  | nil => intro s; simp
  | cons c l ih => intro s; rw [List.foldl_cons, ih]; simp [ch]

/-- Only text and marks. -/
def OkN (N : List (Nat × ByteArray)) : Prop := ∀ d ∈ N, d.1 = 0 ∨ d.1 = 1

theorem ok_mk (N : List (Nat × ByteArray)) (fl : Bool) (h : OkN N) : OkN (mk N fl) := by
  unfold mk
  split
  · intro d hd
    rcases List.mem_append.1 hd with hd | hd
    · exact h d hd
    · rw [List.mem_singleton.1 hd]; exact .inr rfl
  · exact h

theorem ok_addN (f : Nat) : ∀ (l : List UInt8) (N : List (Nat × ByteArray)) (fl : Bool), OkN N → OkN (addN f l N fl).1 := by
  induction f with
  | zero => intro l N fl h; exact h
  | succ f ih =>
    intro l N fl h
    by_cases he : l = []
    · rw [he, addN_nil]; exact h
    · rw [addN_step f l N fl he]
      refine ih _ _ _ ?_
      intro d hd
      rcases List.mem_append.1 hd with hd | hd
      · exact ok_mk N fl h d hd
      · rw [List.mem_singleton.1 hd]; exact .inl rfl

end Go.Proofs.Qxb6602523a.Math
