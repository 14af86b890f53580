/-
  SEAT b6003772a: THE PLAIN LAW, WITH NO Go IN IT. 'esc': the escaping of the laws' own text; 'scn': what scan gives: the text with its escapes resolved, and the delimiters; that the two are inverse.
-/
namespace Go.Proofs.Qxb6003772a.Math

/-- Two bytes that are << or >>. -/
def pair (x y : Int) : Bool := decide (x = y ∧ (x = 60 ∨ x = 62))

theorem pair_iff {x y : Int} : pair x y = true ↔ x = y ∧ (x = 60 ∨ x = 62) := by unfold pair; exact decide_eq_true_iff
theorem pair_no {x y : Int} (h : x ≠ y) : pair x y = false := by
  cases hp : pair x y with
  | false => rfl
  | true => exact absurd (pair_iff.1 hp).1 h
theorem pair_ne64 {x y : Int} (h : pair x y = true) : x ≠ 64 ∧ y ≠ 64 := by
  have := pair_iff.1 h
  omega
theorem pair_64 (y : Int) : pair 64 y = false := by
  cases hp : pair 64 y with
  | false => rfl
  | true => exact absurd rfl (pair_ne64 hp).1
theorem pair_to64 (x : Int) : pair x 64 = false := by
  cases hp : pair x 64 with
  | false => rfl
  | true => exact absurd rfl (pair_ne64 hp).2

/-- '@' before every pair, found greedily from the left. -/
def esc : List Int → List Int
  | [] => []
  | [x] => [x]
  | x :: y :: r => if pair x y then 64 :: x :: y :: esc r else x :: esc (y :: r)

theorem esc_pair {x y : Int} (r : List Int) (h : pair x y = true) : esc (x :: y :: r) = 64 :: x :: y :: esc r := by rw [esc, if_pos h]
theorem esc_plain {x y : Int} (r : List Int) (h : pair x y = false) : esc (x :: y :: r) = x :: esc (y :: r) := by rw [esc, if_neg (by rw [h]; exact Bool.false_ne_true)]

theorem esc_length (t : List Int) : (esc t).length ≤ 2 * t.length := by
  match t with
  | [] => exact Nat.le_refl _
  | [x] => simp [esc]
  | x :: y :: r =>
    cases hp : pair x y with
    | true =>
      rw [esc_pair r hp]
      have := esc_length r
      simp only [List.length_cons]
      omega
    | false =>
      rw [esc_plain r hp]
      have := esc_length (y :: r)
      simp only [List.length_cons] at this ⊢
      omega

/-- From place 'a' of the resolved text on: the resolved text and the delimiters. -/
def scn : List Int → Nat → List Int × List (Nat × Bool)
  | [], _ => ([], [])
  | [x], _ => ([x], [])
  | x :: y :: [], a => if pair x y then (x :: (scn [y] (a + 1)).1, (a, decide (x = 60)) :: (scn [y] (a + 1)).2) else (x :: (scn [y] (a + 1)).1, (scn [y] (a + 1)).2)
  | x :: y :: z :: r, a =>
    if pair x y then (x :: (scn (y :: z :: r) (a + 1)).1, (a, decide (x = 60)) :: (scn (y :: z :: r) (a + 1)).2)
    else if x = 64 ∧ pair y z = true then (y :: z :: (scn r (a + 2)).1, (scn r (a + 2)).2)
    else (x :: (scn (y :: z :: r) (a + 1)).1, (scn (y :: z :: r) (a + 1)).2)

theorem scn_two (x y : Int) (a : Nat) : scn [x, y] a = if pair x y then (x :: (scn [y] (a + 1)).1, (a, decide (x = 60)) :: (scn [y] (a + 1)).2) else (x :: (scn [y] (a + 1)).1, (scn [y] (a + 1)).2) := rfl
theorem scn_pair {x y : Int} (r : List Int) (a : Nat) (h : pair x y = true) : scn (x :: y :: r) a = (x :: (scn (y :: r) (a + 1)).1, (a, decide (x = 60)) :: (scn (y :: r) (a + 1)).2) := by
  cases r with
  | nil => rw [scn_two, if_pos h]
  | cons z r => rw [scn, if_pos h]

theorem scn_esc {y z : Int} (r : List Int) (a : Nat) (h : pair y z = true) : scn (64 :: y :: z :: r) a = (y :: z :: (scn r (a + 2)).1, (scn r (a + 2)).2) := by
  rw [scn, if_neg (by rw [pair_64]; exact Bool.false_ne_true), if_pos ⟨rfl, h⟩]

theorem scn_plain2 {x y : Int} (a : Nat) (h : pair x y = false) : scn [x, y] a = (x :: (scn [y] (a + 1)).1, (scn [y] (a + 1)).2) := by
  rw [scn_two, if_neg (by rw [h]; exact Bool.false_ne_true)]

theorem scn_plain3 {x y z : Int} (r : List Int) (a : Nat) (h : pair x y = false) (h2 : ¬ (x = 64 ∧ pair y z = true)) : scn (x :: y :: z :: r) a = (x :: (scn (y :: z :: r) (a + 1)).1, (scn (y :: z :: r) (a + 1)).2) := by
  rw [scn, if_neg (by rw [h]; exact Bool.false_ne_true), if_neg h2]

/-- The first two of a list, for a test. -/
def two (l : List Int) : Bool := match l with | y :: z :: _ => pair y z | _ => false

theorem scn_plain {x : Int} (l : List Int) (a : Nat) (h : ∀ y, l.head? = some y → pair x y = false) (h2 : x = 64 → two l = false) : scn (x :: l) a = (x :: (scn l (a + 1)).1, (scn l (a + 1)).2) := by
  match l with
  | [] => rfl
  | [y] => exact scn_plain2 a (h y rfl)
  | y :: z :: r =>
    refine scn_plain3 r a (h y rfl) ?_
    rintro ⟨e, hp⟩
    have := h2 e
    rw [show two (y :: z :: r) = pair y z from rfl, hp] at this
    cases this

/-- May the byte x stand ahead of S without making a delimiter or an escape? -/
def Okc (x : Int) (S : List Int) : Prop := (∀ y, S.head? = some y → pair x y = false) ∧ (x = 64 → two S = false)

theorem head_esc (y : Int) (r S : List Int) : (esc (y :: r) ++ S).head? = some y ∨ (esc (y :: r) ++ S).head? = some 64 := by
  match r with
  | [] => exact .inl rfl
  | z :: r =>
    cases hp : pair y z with
    | true => rw [esc_pair r hp]; exact .inr rfl
    | false => rw [esc_plain r hp]; exact .inl rfl

/-- THE MAIN LEMMA: an escaped text, then S: it is resolved to itself and makes no delimiter. -/
theorem scn_esc_all : ∀ (t S : List Int) (a : Nat), (∀ x, t.getLast? = some x → Okc x S) → scn (esc t ++ S) a = (t ++ (scn S (a + t.length)).1, (scn S (a + t.length)).2)
  | [], S, a, _ => by rw [esc]; simp
  | [x], S, a, h => by
    have hx := h x rfl
    show scn (x :: S) a = _
    rw [scn_plain S a hx.1 hx.2]
    simp
  | x :: y :: r, S, a, h => by
    cases hp : pair x y with
    | true =>
      rw [esc_pair r hp]
      show scn (64 :: x :: y :: (esc r ++ S)) a = _
      have hl : ∀ x, r.getLast? = some x → Okc x S := fun x' hx' => h x' (by
        match r, hx' with
        | z :: r, hx' => rw [List.getLast?_cons_cons, List.getLast?_cons_cons]; exact hx')
      rw [scn_esc _ a hp, scn_esc_all r S (a + 2) hl]
      simp only [List.length_cons, List.cons_append, Prod.mk.injEq, List.cons.injEq, true_and]
      rw [show a + 2 + r.length = a + (r.length + 1 + 1) from by omega]
      exact ⟨rfl, rfl⟩
    | false =>
      rw [esc_plain r hp]
      show scn (x :: (esc (y :: r) ++ S)) a = _
      have hl : ∀ x, (y :: r).getLast? = some x → Okc x S := fun x' hx' => h x' (by rw [List.getLast?_cons_cons]; exact hx')
      rw [scn_plain, scn_esc_all (y :: r) S (a + 1) hl]
      · simp only [List.length_cons, List.cons_append, Prod.mk.injEq]
        rw [show a + 1 + (r.length + 1) = a + (r.length + 1 + 1) from by omega]
        exact ⟨rfl, rfl⟩
      · intro y' hy'
        rcases head_esc y r S with e | e
        · rw [e] at hy'; cases hy'; exact hp
        · rw [e] at hy'; cases hy'; exact pair_to64 x
      · intro _
        match r, h with
        | [], h =>
          show two (y :: S) = false
          match S, h with
          | [], _ => rfl
          | s :: S, h => exact (h y rfl).1 s rfl
        | z :: r, h =>
          cases hq : pair y z with
          | true => rw [esc_pair r hq]; exact pair_64 y
          | false =>
            rw [esc_plain r hq]
            show two (y :: (esc (z :: r) ++ S)) = false
            have hh := head_esc z r S
            match hE : esc (z :: r) ++ S, hh with
            | [], _ => rfl
            | u :: E, hh =>
              show pair y u = false
              rcases hh with e | e
              · cases e; exact hq
              · cases e; exact pair_to64 y

/-- What scan gives. -/
def scan (L : List Int) : List Int × List (Nat × Bool) := match L with
  | x :: y :: r => if x = 64 ∧ y = 64 then (64 :: (scn r 1).1, (scn r 1).2) else scn (x :: y :: r) 0
  | l => scn l 0

theorem scan_at (r : List Int) : scan (64 :: 64 :: r) = (64 :: (scn r 1).1, (scn r 1).2) := by simp [scan]
theorem scan_no (L : List Int) (h : ∀ r, L ≠ 64 :: 64 :: r) : scan L = scn L 0 := by
  match L with
  | [] => rfl
  | [x] => rfl
  | x :: y :: r =>
    have hn : ¬ (x = 64 ∧ y = 64) := by rintro ⟨rfl, rfl⟩; exact h r rfl
    show (if x = 64 ∧ y = 64 then _ else _) = _
    rw [if_neg hn]

/-- A text without < and > holds nothing to resolve. -/
theorem scn_none (l : List Int) (h : ∀ x ∈ l, x ≠ 60 ∧ x ≠ 62) : ∀ a, scn l a = (l, []) := by
  have hno : ∀ x y, x ∈ l → pair x y = false := fun x y hx => by
    cases hp : pair x y with
    | false => rfl
    | true => have := pair_iff.1 hp; have := h x hx; omega
  induction l with
  | nil => intro a; rfl
  | cons x l ih =>
    intro a
    rw [scn_plain l a (fun y _ => hno x y (by simp)), ih (fun y hy => h y (by simp [hy])) (fun y z hy => hno y z (by simp [hy]))]
    intro _
    match l with
    | [] => rfl
    | [_] => rfl
    | y :: z :: r => exact hno y z (by simp)

/-! ### The header -/
theorem scn_tail (tail : List Int) (a : Nat) : scn (62 :: 62 :: 61 :: esc tail) a = (62 :: 62 :: 61 :: tail, [(a, false)]) := by
  have h1 : scn (esc tail) (a + 3) = (tail, []) := by
    have := scn_esc_all tail [] (a + 3) (fun x _ => ⟨fun y hy => (by cases hy), fun _ => rfl⟩)
    simpa [scn] using this
  have h2 : scn (61 :: esc tail) (a + 2) = (61 :: tail, []) := by
    rw [scn_plain, h1]
    · intro y _
      cases hp : pair 61 y with
      | false => rfl
      | true => have := pair_iff.1 hp; omega
    · intro e; cases e
  have h3 : scn (62 :: 61 :: esc tail) (a + 1) = (62 :: 61 :: tail, []) := by
    rw [scn_plain, h2]
    · intro y hy
      cases hy
      exact pair_no (by decide)
    · intro e; cases e
  rw [scn_pair _ _ (by decide), h3]
  rfl

/-- The header line: <<, the escaped name, >>=, the escaped tail. -/
theorem scan_header (name tail : List Int) (hl : ∀ x, name.getLast? = some x → x ≠ 62 ∧ x ≠ 64) :
    ∃ O : List (Nat × Bool), (∀ d ∈ O, d.2 = true) ∧ O.length ≤ 1 ∧ scan (60 :: 60 :: (esc name ++ (62 :: 62 :: 61 :: esc tail))) = (60 :: 60 :: (name ++ 62 :: 62 :: 61 :: tail), (0, true) :: (O ++ [(2 + name.length, false)])) := by
  have hm : scn (esc name ++ (62 :: 62 :: 61 :: esc tail)) 2 = (name ++ 62 :: 62 :: 61 :: tail, [(2 + name.length, false)]) := by
    rw [scn_esc_all name _ 2, scn_tail]
    intro x hx
    have := hl x hx
    exact ⟨fun y hy => by cases hy; exact pair_no this.1, fun e => absurd e this.2⟩
  rw [scan_no _ (fun r e => by cases e), scn_pair _ _ (by decide)]
  generalize esc name ++ (62 :: 62 :: 61 :: esc tail) = M at hm ⊢
  cases hp : two (60 :: M) with
  | true =>
    match M, hp, hm with
    | y :: M, hp, hm =>
      have hp' : pair 60 y = true := hp
      rw [scn_pair M 1 hp', hm]
      exact ⟨[(1, true)], by simp, by simp, rfl⟩
  | false =>
    refine ⟨[], by simp, by simp, ?_⟩
    rw [scn_plain M 1, hm]
    · rfl
    · intro y hy
      match M, hy, hp with
      | y' :: M, hy, hp => cases hy; exact hp
    · intro e; cases e

/-! ### The escaped line -/
def escAt (b : Bool) (t : List Int) : List Int := (if b = true ∧ t.head? = some 64 then [64] else []) ++ esc t

theorem esc_64 (r : List Int) : esc (64 :: r) = 64 :: esc r := by
  match r with
  | [] => rfl
  | y :: r => exact esc_plain r (pair_64 y)

theorem scan_line (t S : List Int) (hS : S = [] ∨ S = [10]) : scan (escAt true t ++ S) = (t ++ S, []) := by
  have hok : ∀ x, Okc x S := fun x => by
    rcases hS with rfl | rfl
    · exact ⟨fun y hy => (by cases hy), fun _ => rfl⟩
    · refine ⟨fun y hy => ?_, fun _ => rfl⟩
      cases hy
      cases hp : pair x 10 with
      | false => rfl
      | true => have := pair_iff.1 hp; omega
  have hSc : ∀ a, scn S a = (S, []) := fun a => by rcases hS with rfl | rfl <;> rfl
  have hall : ∀ (r : List Int) a, scn (esc r ++ S) a = (r ++ S, []) := fun r a => by rw [scn_esc_all r S a (fun x _ => hok x), hSc]
  match t with
  | [] =>
    show scan ([] ++ S) = _
    rw [List.nil_append, scan_no _ (fun r e => by rcases hS with rfl | rfl <;> cases e), hSc]
  | x :: r =>
    by_cases hx : x = 64
    · subst hx
      have e : escAt true (64 :: r) ++ S = 64 :: 64 :: (esc r ++ S) := by
        unfold escAt
        rw [if_pos ⟨rfl, rfl⟩, esc_64]
        rfl
      rw [e, scan_at, hall]
      rfl
    · have e : escAt true (x :: r) = esc (x :: r) := by
        unfold escAt
        rw [if_neg (by rintro ⟨_, h⟩; cases h; exact hx rfl)]
        rfl
      rw [e, scan_no _ (fun r' e' => ?_), hall]
      match r, e' with
      | [], e' => cases e'; exact hx rfl
      | y :: r, e' =>
        cases hp : pair x y with
        | true =>
          rw [esc_pair r hp] at e'
          cases e'
          exact absurd rfl hx
        | false =>
          rw [esc_plain r hp] at e'
          exact hx (List.cons.inj e').1

end Go.Proofs.Qxb6003772a.Math
