/-
  SEAT b6003772a: scan: what the call builds (a text, the delimiters), and what a round does to it.
-/
import Derived.Test.Qxb6003772aWalkC
namespace Go.Proofs.Qxb6003772a
open Go.RowKit Math

theorem info38 : (Try.prog.info? 38).map (fun i => (i.zero, i.size, i.bytes)) = some (some (.agg #[.int .i64 0, .bool false]), 2, 16) := by kernel_rfl

/-- The cells of a row of delimiters. -/
def dcells : List (Nat × Bool) → List Value
  | [] => []
  | d :: D => .int .i64 d.1 :: .bool d.2 :: dcells D

theorem dcells_length (D : List (Nat × Bool)) : (dcells D).length = D.length * 2 := by
  induction D with
  | nil => rfl
  | cons d D ih => simp only [dcells, List.length_cons, ih]; omega
theorem dcells_append (D E : List (Nat × Bool)) : dcells (D ++ E) = dcells D ++ dcells E := by
  induction D with
  | nil => rfl
  | cons d D ih => simp only [dcells, List.cons_append, ih]

def dAt (D : List (Nat × Bool)) (j : Nat) : Nat := (D.getD j (0, false)).1
def dOp (D : List (Nat × Bool)) (j : Nat) : Bool := (D.getD j (0, false)).2

theorem dcells_get (D : List (Nat × Bool)) : ∀ j, j < D.length → (dcells D)[2 * j]? = some (.int .i64 (dAt D j)) ∧ (dcells D)[2 * j + 1]? = some (.bool (dOp D j)) := by
  induction D with
  | nil => intro j hj; cases hj
  | cons d D ih =>
    intro j hj
    match j, hj with
    | 0, _ => exact ⟨rfl, rfl⟩
    | j + 1, hj =>
      have := ih j (by simpa using hj)
      rw [show 2 * (j + 1) = 2 * j + 2 from by omega]
      exact this

/-- A slice of delimiters that the call itself builds. -/
def OwnD (B : Nat) (w : World) (v : Value) (D : List (Nat × Bool)) : Prop := w.ownsRow B 38 2 v D.length (dcells D)

/-- Delimiters in memory, for whoever reads them. -/
def Dl (w : World) (p : Option Addr) (n c : Nat) (D : List (Nat × Bool)) : Prop :=
  D.length = n ∧ n ≤ c ∧ (0 < n → ∃ g, p = some ⟨g, 0, none⟩ ∧ g < w.heap.size ∧ ∀ j, j < n → w.cell? ⟨g, 2 * j, none⟩ = some (.int .i64 (dAt D j)) ∧ w.cell? ⟨g, 2 * j + 1, none⟩ = some (.bool (dOp D j)))

theorem Dl.later {w w' : World} {p : Option Addr} {n c : Nat} {D : List (Nat × Bool)} (h : Dl w p n c D) (hb : Below w.heap.size w w') : Dl w' p n c D := by
  obtain ⟨h0, h1, h3⟩ := h
  refine ⟨h0, h1, fun h => ?_⟩
  obtain ⟨g, e, hlt, hc⟩ := h3 h
  exact ⟨g, e, Nat.lt_of_lt_of_le hlt hb.size, fun j hj => by rw [hb.cell (p := ⟨g, 2 * j, none⟩) hlt, hb.cell (p := ⟨g, 2 * j + 1, none⟩) hlt]; exact hc j hj⟩

theorem OwnD.shape {B : Nat} {w : World} {v : Value} {D : List (Nat × Bool)} (h : OwnD B w v D) : ∃ p c, v = .slice p D.length c := by
  rcases h.2 with ⟨hv, hn⟩ | ⟨g, cap, cur, hv, _⟩
  · exact ⟨none, 0, by rw [hv, hn]⟩
  · exact ⟨_, cap, hv⟩

theorem OwnD.dl {B : Nat} {w : World} {p : Option Addr} {n c : Nat} {D : List (Nat × Bool)} (h : OwnD B w (.slice p n c) D) : Dl w p n c D := by
  rcases h.2 with ⟨hv, hn⟩ | ⟨g, cap, cur, hv, hg, hh, hc, hm, hs, ht⟩
  · cases hv
    exact ⟨hn, Nat.le_refl _, fun h => absurd h (Nat.lt_irrefl _)⟩
  · cases hv
    refine ⟨rfl, hc, fun _ => ⟨g, rfl, (Array.getElem?_eq_some_iff.1 hh).1, fun j hj => ?_⟩⟩
    have h1 := World.ownsRow.cellAt (base := B) (e := 38) (size := 2) h (2 * j) (by omega)
    have h2 := World.ownsRow.cellAt (base := B) (e := 38) (size := 2) h (2 * j + 1) (by omega)
    rw [h1, h2]
    exact dcells_get D j hj

theorem OwnD.below {B : Nat} {w w' : World} {v : Value} {D : List (Nat × Bool)} (h : OwnD B w v D) (hb : Below w.heap.size w w') : OwnD B w' v D :=
  World.ownsRow.kept h (row := none) ⟨hb.os, hb.tape, hb.output, hb.size, fun k hk _ => hb.block k hk⟩ (by cases hv : v.ownBlock <;> simp)

/-- The two rows lie in two blocks: their elements' types differ. -/
theorem own_apart {B : Nat} {w : World} {v v' : Value} {l : List Int} {D : List (Nat × Bool)} (h : OwnB B w v l) (h' : OwnD B w v' D) : v.ownBlock = none ∨ v.ownBlock ≠ v'.ownBlock := by
  rcases h.2 with ⟨rfl, _⟩ | ⟨g, cap, cur, rfl, _, hh, _⟩
  · exact .inl rfl
  · rcases h'.2 with ⟨rfl, _⟩ | ⟨g', cap', cur', rfl, _, hh', _⟩
    · exact .inr (by simp [Value.ownBlock])
    · refine .inr (fun e => ?_)
      have e : g = g' := by simpa [Value.ownBlock] using e
      subst e
      rw [hh] at hh'
      simp at hh'

theorem own_apart' {B : Nat} {w : World} {v v' : Value} {l : List Int} {D : List (Nat × Bool)} (h : OwnB B w v l) (h' : OwnD B w v' D) : v'.ownBlock = none ∨ v'.ownBlock ≠ v.ownBlock := by
  rcases h'.2 with ⟨rfl, _⟩ | ⟨g', cap', cur', rfl, _, hh', _⟩
  · exact .inl rfl
  · rcases own_apart h h' with e | e
    · exact .inr (by rw [e]; simp [Value.ownBlock])
    · exact .inr e.symm

/-- 'delims = append(delims, d)', the delimiter laid in a new block of its own. -/
theorem wpList_pushD {ops : Array Oper} {rest : List Oper} {o : Oper} {a : Act} {Q : Exit → Act → World → Prop} (w : World) (hgd : o.guard = none) (s x : Operand)
    (ho : o.op = .call { callee := .builtin .append, args := #[s, x], argTypes := #[26, 26] })
    (B : Nat) (v vt : Value) (D : List (Nat × Bool)) (T : List Int) (at' : Nat) (z : Int) (hz : z = at') (op : Bool) (hs : a.eval s = v) (hown : OwnD B w v D) (hT : OwnB B w vt T) (g : Nat) (hx : a.eval x = .slice (some ⟨g, 0, none⟩) 1 1) (hg : g = w.heap.size) (hlen : D.length ≤ 16777216) (hB : B ≤ w.heap.size)
    (h : ∀ v' w', OwnD B w' v' (D ++ [(at', op)]) → OwnB B w' vt T → Below B w w' → wpList Try.prog ops Q rest (a.put o.dst v') w') : wpList Try.prog ops Q (o :: rest) a (w.alloc (.cells #[.int .i64 z, .bool op] 38)) := by
  subst hg
  subst hz
  obtain ⟨i0, hi, hz0, hz1, hz2⟩ := info_parts info38
  refine wpList_append_own _ hgd s x 26 ho B 38 i0 (.agg #[.int .i64 0, .bool false]) 2 16 Try.underlying26 hi hz0 hz1 hz2 rfl (by decide) v D.length (dcells D) hs (World.ownsRow.alloc hown _) ⟨w.heap.size, 0, none⟩ 1 1 [.int .i64 at', .bool op] hx rfl ?_ ?_ ?_ ?_ ?_ ?_
  · intro j u hj
    match j, hj with
    | 0, hj => simp at hj; subst hj; simp [Addr.add]
    | 1, hj => simp at hj; subst hj; simp [Addr.add]
  · intro u hu
    simp at hu
    rcases hu with rfl | rfl <;> rfl
  · unfold maxLen; omega
  · omega
  · simp; omega
  · intro v' w' h1 h2 _
    refine h v' w' ?_ ?_ ?_
    · unfold OwnD
      rw [List.length_append, dcells_append]
      exact h1
    · exact World.ownsRow.kept (World.ownsRow.alloc hT _) h2 (own_apart hT hown)
    · exact ((Below.refl B w).alloc hB _).grown h2 (by simp; omega) (fun k hk => (hown.lt k hk).1)

/-- 'text = append(text, piece...)', the piece wherever it lies. -/
theorem wpList_pushS {ops : Array Oper} {rest : List Oper} {o : Oper} {a : Act} {Q : Exit → Act → World → Prop} (w : World) (hgd : o.guard = none) (s x : Operand)
    (ho : o.op = .call { callee := .builtin .append, args := #[s, x], argTypes := #[22, 22] })
    (B : Nat) (v vd : Value) (T S : List Int) (D : List (Nat × Bool)) (hs : a.eval s = v) (hown : OwnB B w v T) (hD : OwnD B w vd D) (ad : Addr) (m d : Nat) (hx : a.eval x = .slice (some ad) m d) (hS : Txt w (some ad) m d S) (hlen : T.length + m ≤ 16777216) (hB : B ≤ w.heap.size)
    (h : ∀ v' w', OwnB B w' v' (T ++ S) → OwnD B w' vd D → Below B w w' → (v' = .slice none 0 0 ↔ v = .slice none 0 0 ∧ m = 0) → wpList Try.prog ops Q rest (a.put o.dst v') w') : wpList Try.prog ops Q (o :: rest) a w := by
  obtain ⟨i0, hi, hz0, hz1, hz2⟩ := info_parts info5
  obtain ⟨g0, g1, g2, g3⟩ := hS
  refine wpList_append_own _ hgd s x 22 ho B 5 i0 (.int .u8 0) 1 1 Try.underlying22 hi hz0 hz1 hz2 rfl (by decide) v T.length (T.map (Value.int .u8)) hs hown ad m d (S.map (Value.int .u8)) hx (by simp [g0]) ?_ ?_ ?_ ?_ hB ?_
  · intro j u hj
    have hjm : j < m := by
      have := (List.getElem?_eq_some_iff.1 hj).1
      rw [List.length_map, g0] at this
      exact this
    obtain ⟨b, o', e, _, hc⟩ := g3 (by omega)
    cases e
    rw [WideShapes.add_plain, hc j hjm]
    rw [List.getElem?_map, List.getElem?_eq_getElem (by omega), nth_eq S j (by omega)] at hj
    exact hj
  · intro u hu
    obtain ⟨z, _, rfl⟩ := List.mem_map.1 hu
    rfl
  · unfold maxLen; omega
  · omega
  · intro v' w' h1 h2 h3
    refine h v' w' ?_ ?_ ?_ h3
    · unfold OwnB
      rw [List.length_append, List.map_append, g0]
      exact h1
    · exact World.ownsRow.kept hD h2 (own_apart' hown hD)
    · exact (Below.refl B w).grown h2 hB (fun k hk => (hown.lt k hk).1)

set_option maxHeartbeats 400000 in
theorem isDelim_any (x y : Int) (b : Bool) (w : World) (h : Hid (pair x y = b)) : Calls Try.prog 26 #[.int .u8 x, .int .u8 y] w fun e w' => e = .returned (.bool b) ∧ w' = w := by
  by_cases hxy : x = y
  · subst hxy
    have e1 : (x == x) = true := beq_self_eq_true x
    by_cases h60 : x = 60
    · have e2 : (x == 60) = true := beq_iff_eq.2 h60
      have hb : true = b := by rw [← h.out]; exact (pair_iff.2 ⟨rfl, .inl h60⟩).symm
      subst hb
      clear h60 h
      go_enter Try.func26, Try.ntmps26
      go_wp2
      go_ret
      exact ⟨rfl, rfl⟩
    · have e2 : (x == 60) = false := beq_eq_false_iff_ne.2 h60
      by_cases h62 : x = 62
      · have e3 : (x == 62) = true := beq_iff_eq.2 h62
        have hb : true = b := by rw [← h.out]; exact (pair_iff.2 ⟨rfl, .inr h62⟩).symm
        subst hb
        clear h60 h62 h
        go_enter Try.func26, Try.ntmps26
        go_wp2
        go_ret
        exact ⟨rfl, rfl⟩
      · have e3 : (x == 62) = false := beq_eq_false_iff_ne.2 h62
        have hb : false = b := by
          rw [← h.out]
          cases hp : pair x x with
          | false => rfl
          | true => have := (pair_iff.1 hp).2; omega
        subst hb
        clear h60 h62 h
        go_enter Try.func26, Try.ntmps26
        go_wp2
        go_ret
        exact ⟨rfl, rfl⟩
  · have e1 : (x == y) = false := beq_eq_false_iff_ne.2 hxy
    have hb : false = b := by rw [← h.out]; exact (pair_no hxy).symm
    subst hb
    clear hxy h
    go_enter Try.func26, Try.ntmps26
    go_wp2
    go_ret
    exact ⟨rfl, rfl⟩

theorem isDelim_eq (x y : Int) (b : Bool) (w : World) (h : Hid (pair x y = b)) : Calls Try.prog 26 #[.int .u8 x, .int .u8 y] w fun e w' => e = .returned (.bool b) ∧ w = w' :=
  (isDelim_any x y b w h).mono fun _ _ h => ⟨h.1, h.2.symm⟩

theorem OwnB.nil {B : Nat} {w : World} {n c : Nat} {T : List Int} (h : OwnB B w (.slice none n c) T) : T = [] := by
  rcases h.2 with ⟨_, hn⟩ | ⟨g, cap, cur, hv, _⟩
  · exact List.eq_nil_of_length_eq_zero hn
  · cases hv
end Go.Proofs.Qxb6003772a
