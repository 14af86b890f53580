/-
  SEAT b6602523a: traceOf.
-/
import Derived.Test.Qxb6602523aWalkE
import Derived.Laws.Concat
namespace Go.Proofs.Qxb6602523a
open Go.RowKit Math

theorem info5 : (Try.prog.info? 5).map (fun i => (i.zero, i.size, i.bytes)) = some (some (.int .u8 0), 1, 1) := by kernel_rfl
theorem info3 : (Try.prog.info? 3).map (fun i => (i.zero, i.size, i.bytes)) = some (some (.int .i64 0), 1, 8) := by kernel_rfl

def bcell (c : UInt8) : Value := .int .u8 (c.toNat : Int)
def icell (n : Nat) : Value := .int .i64 (n : Int)
def OwnB (B : Nat) (w : World) (v : Value) (l : List UInt8) : Prop := w.ownsRow B 5 1 v l.length (l.map bcell)
def OwnI (B : Nat) (w : World) (v : Value) (l : List Nat) : Prop := w.ownsRow B 3 1 v l.length (l.map icell)

theorem OwnB.below {B : Nat} {w w' : World} {v : Value} {l : List UInt8} (h : OwnB B w v l) (hb : Below w.heap.size w w') : OwnB B w' v l :=
  World.ownsRow.kept h (row := none) ⟨hb.os, hb.tape, hb.output, hb.size, fun k hk _ => hb.block k hk⟩ (by cases hv : v.ownBlock <;> simp)
theorem OwnI.below {B : Nat} {w w' : World} {v : Value} {l : List Nat} (h : OwnI B w v l) (hb : Below w.heap.size w w') : OwnI B w' v l :=
  World.ownsRow.kept h (row := none) ⟨hb.os, hb.tape, hb.output, hb.size, fun k hk _ => hb.block k hk⟩ (by cases hv : v.ownBlock <;> simp)

theorem OwnB.shape {B : Nat} {w : World} {v : Value} {l : List UInt8} (h : OwnB B w v l) : ∃ p c, v = .slice p l.length c := by
  rcases h.2 with ⟨hv, hn⟩ | ⟨g, cap, cur, hv, _⟩
  · exact ⟨none, 0, by rw [hv, hn]⟩
  · exact ⟨_, cap, hv⟩
theorem OwnI.shape {B : Nat} {w : World} {v : Value} {l : List Nat} (h : OwnI B w v l) : ∃ p c, v = .slice p l.length c := by
  rcases h.2 with ⟨hv, hn⟩ | ⟨g, cap, cur, hv, _⟩
  · exact ⟨none, 0, by rw [hv, hn]⟩
  · exact ⟨_, cap, hv⟩

theorem OwnB.at {B : Nat} {w : World} {p : Option Addr} {n c : Nat} {l : List UInt8} (h : OwnB B w (.slice p n c) l) (j : Nat) (x : UInt8) (hj : l[j]? = some x) : ∃ g, p = some ⟨g, 0, none⟩ ∧ w.cell? ⟨g, j, none⟩ = some (.int .u8 (x.toNat : Int)) := by
  have hl : j < l.length := (List.getElem?_eq_some_iff.1 hj).1
  rcases h.2 with ⟨hv, hn⟩ | ⟨g, cap, cur, hv, hg, hh, hc, hm, hs, ht⟩
  · omega
  · cases hv
    refine ⟨g, rfl, ?_⟩
    rw [World.ownsRow.cellAt (base := B) (e := 5) (size := 1) h j (by omega), List.getElem?_map, hj]
    rfl
theorem OwnI.at {B : Nat} {w : World} {p : Option Addr} {n c : Nat} {l : List Nat} (h : OwnI B w (.slice p n c) l) (j : Nat) (x : Nat) (hj : l[j]? = some x) : ∃ g, p = some ⟨g, 0, none⟩ ∧ w.cell? ⟨g, j, none⟩ = some (.int .i64 (x : Int)) := by
  have hl : j < l.length := (List.getElem?_eq_some_iff.1 hj).1
  rcases h.2 with ⟨hv, hn⟩ | ⟨g, cap, cur, hv, hg, hh, hc, hm, hs, ht⟩
  · omega
  · cases hv
    refine ⟨g, rfl, ?_⟩
    rw [World.ownsRow.cellAt (base := B) (e := 3) (size := 1) h j (by omega), List.getElem?_map, hj]
    rfl

theorem own_apart {B : Nat} {w : World} {v v' : Value} {l : List UInt8} {D : List Nat} (h : OwnB B w v l) (h' : OwnI B w v' D) : v.ownBlock = none ∨ v.ownBlock ≠ v'.ownBlock := by
  rcases h.2 with ⟨rfl, _⟩ | ⟨g, cap, cur, rfl, _, hh, _⟩
  · exact .inl rfl
  · rcases h'.2 with ⟨rfl, _⟩ | ⟨g', cap', cur', rfl, _, hh', _⟩
    · exact .inr (by simp [Value.ownBlock])
    · refine .inr (fun e => ?_)
      have e : g = g' := by simpa [Value.ownBlock] using e
      subst e
      rw [hh] at hh'
      simp at hh'

theorem own_apart' {B : Nat} {w : World} {v v' : Value} {l : List UInt8} {D : List Nat} (h : OwnB B w v l) (h' : OwnI B w v' D) : v'.ownBlock = none ∨ v'.ownBlock ≠ v.ownBlock := by
  rcases h'.2 with ⟨rfl, _⟩ | ⟨g', cap', cur', rfl, _, hh', _⟩
  · exact .inl rfl
  · rcases own_apart h h' with e | e
    · exact .inr (by rw [e]; simp [Value.ownBlock])
    · exact .inr e.symm

theorem one_cell (k : IntKind) (x : Int) : ∀ u ∈ [Value.int k x], u.oneCell' = true := by
  intro u hu
  simp at hu
  subst hu
  rfl

theorem wpList_pushB {ops : Array Oper} {rest : List Oper} {o : Oper} {a : Act} {Q : Exit → Act → World → Prop} (w : World) (hgd : o.guard = none) (s x : Operand)
    (ho : o.op = .call { callee := .builtin .append, args := #[s, x], argTypes := #[32, 32] })
    (B : Nat) (v vi : Value) (l : List UInt8) (D : List Nat) (y : UInt8) (hs : a.eval s = v) (hown : OwnB B w v l) (hI : OwnI B w vi D) (g : Nat) (hx : a.eval x = .slice (some ⟨g, 0, none⟩) 1 1) (hg : g = w.heap.size) (hlen : l.length ≤ 16777216) (hB : B ≤ w.heap.size)
    (h : ∀ v' w', OwnB B w' v' (l ++ [y]) → OwnI B w' vi D → Below B w w' → wpList Try.prog ops Q rest (a.put o.dst v') w') : wpList Try.prog ops Q (o :: rest) a (w.alloc (.cells #[.int .u8 (y.toNat : Int)] 5)) := by
  subst hg
  obtain ⟨i0, hi, hz0, hz1, hz2⟩ := info_parts info5
  refine wpList_append_own _ hgd s x 32 ho B 5 i0 (.int .u8 0) 1 1 Try.underlying32 hi hz0 hz1 hz2 rfl (by decide) v l.length (l.map bcell) hs (World.ownsRow.alloc hown _) ⟨w.heap.size, 0, none⟩ 1 1 [.int .u8 (y.toNat : Int)] hx rfl ?_ (one_cell _ _) ?_ ?_ ?_ ?_
  · intro j u hj
    match j, hj with
    | 0, hj => simp at hj; subst hj; simp [Addr.add]
  · unfold maxLen; omega
  · omega
  · simp; omega
  · intro v' w' h1 h2 _
    refine h v' w' ?_ ?_ ?_
    · unfold OwnB
      rw [List.length_append, List.map_append]
      exact h1
    · exact World.ownsRow.kept (World.ownsRow.alloc hI _) h2 (own_apart' hown hI)
    · exact ((Below.refl B w).alloc hB _).grown h2 (by simp; omega) (fun k hk => (hown.lt k hk).1)

theorem wpList_pushI {ops : Array Oper} {rest : List Oper} {o : Oper} {a : Act} {Q : Exit → Act → World → Prop} (w : World) (hgd : o.guard = none) (s x : Operand)
    (ho : o.op = .call { callee := .builtin .append, args := #[s, x], argTypes := #[33, 33] })
    (B : Nat) (v vb : Value) (l : List UInt8) (D : List Nat) (y : Nat) (hs : a.eval s = v) (hown : OwnI B w v D) (hI : OwnB B w vb l) (g : Nat) (hx : a.eval x = .slice (some ⟨g, 0, none⟩) 1 1) (hg : g = w.heap.size) (hlen : D.length ≤ 16777216) (hB : B ≤ w.heap.size)
    (h : ∀ v' w', OwnI B w' v' (D ++ [y]) → OwnB B w' vb l → Below B w w' → wpList Try.prog ops Q rest (a.put o.dst v') w') : wpList Try.prog ops Q (o :: rest) a (w.alloc (.cells #[.int .i64 (y : Int)] 3)) := by
  subst hg
  obtain ⟨i0, hi, hz0, hz1, hz2⟩ := info_parts info3
  refine wpList_append_own _ hgd s x 33 ho B 3 i0 (.int .i64 0) 1 8 Try.underlying33 hi hz0 hz1 hz2 rfl (by decide) v D.length (D.map icell) hs (World.ownsRow.alloc hown _) ⟨w.heap.size, 0, none⟩ 1 1 [.int .i64 (y : Int)] hx rfl ?_ (one_cell _ _) ?_ ?_ ?_ ?_
  · intro j u hj
    match j, hj with
    | 0, hj => simp at hj; subst hj; simp [Addr.add]
  · unfold maxLen; omega
  · omega
  · simp; omega
  · intro v' w' h1 h2 _
    refine h v' w' ?_ ?_ ?_
    · unfold OwnI
      rw [List.length_append, List.map_append]
      exact h1
    · exact World.ownsRow.kept (World.ownsRow.alloc hI _) h2 (own_apart hI hown)
    · exact ((Below.refl B w).alloc hB _).grown h2 (by simp; omega) (fun k hk => (hown.lt k hk).1)

/-! ### The trace, node by node -/
theorem trN_take (N : List Node) (k : Nat) (d : Node) (h : N[k]? = some d) : trN (N.take (k + 1)) = tr1 (trN (N.take k)) d := by
  rw [List.take_add_one, h]
  exact trN_snoc _ _

theorem tr1_le (s : Tr) (d : Node) : s.text.length ≤ (tr1 s d).text.length := by
  unfold tr1; split <;> simp

theorem fold_le (N : List Node) : ∀ s : Tr, s.text.length ≤ (N.foldl tr1 s).text.length := by
  induction N with
  | nil => intro s; exact Nat.le_refl _
  | cons d N ih => intro s; exact Nat.le_trans (tr1_le s d) (ih _)

theorem trN_take_le (N : List Node) (k : Nat) : (trN (N.take k)).text.length ≤ (trN N).text.length := by
  have h : trN N = (N.drop k).foldl tr1 (trN (N.take k)) := by
    unfold trN
    rw [← List.foldl_append, List.take_append_drop]
  rw [h]
  exact fold_le _ _

theorem fold_starts (N : List Node) : ∀ s : Tr, (N.foldl tr1 s).starts.length ≤ s.starts.length + N.length := by
  induction N with
  | nil => intro s; exact Nat.le_refl _
  | cons d N ih =>
    intro s
    refine Nat.le_trans (ih _) ?_
    unfold tr1
    split <;> simp <;> omega

theorem trN_starts_le (N : List Node) (k : Nat) : (trN (N.take k)).starts.length ≤ k := by
  refine Nat.le_trans (fold_starts _ _) ?_
  simp
  omega

set_option maxHeartbeats 400000 in
theorem kind10 (w : World) : Calls Try.prog 10 #[] w fun e w' => e = .returned (.int .i64 0) ∧ w = w' := by
  go_enter Try.func10, Try.ntmps10
  go_wp2
  go_ret
  exact ⟨rfl, rfl⟩
set_option maxHeartbeats 400000 in
theorem kind11 (w : World) : Calls Try.prog 11 #[] w fun e w' => e = .returned (.int .i64 1) ∧ w = w' := by
  go_enter Try.func11, Try.ntmps11
  go_wp2
  go_ret
  exact ⟨rfl, rfl⟩
end Go.Proofs.Qxb6602523a
