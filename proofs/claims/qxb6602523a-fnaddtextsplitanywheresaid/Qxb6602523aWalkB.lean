/-
  SEAT b6602523a: add.
-/
import Derived.Test.Qxb6602523aWalkA
import Derived.Deep.RegionHeld3
import Derived.Deep.AppendLies
import Derived.Deep.RegionLaw
namespace Go.Proofs.Qxb6602523a
open Go.RowKit

theorem info48 : (Try.prog.info? 48).map (fun i => (i.zero, i.size, i.bytes)) = some (some (.agg #[.int .i64 0, .string ⟨#[]⟩, .slice none 0 0, .int .i64 0, .slice none 0 0, .bool false, .string ⟨#[]⟩]), 7, 104) := by kernel_rfl

/-- The seven new cells behind an append of one zero node. -/
theorem row_cells {B g cap nn : Nat} {w : World} {xs : List Value} (h : w.ownsRow B 48 7 (.slice (some ⟨g, 0, none⟩) (nn + 1) cap) (nn + 1) (xs ++ ncell 0 ⟨#[]⟩)) (hx : xs.length = nn * 7) :
    w.cell? ⟨g, nn * 7, none⟩ = some (.int .i64 0) ∧ w.cell? ⟨g, nn * 7 + 1, none⟩ = some (.string ⟨#[]⟩) ∧ w.cell? ⟨g, nn * 7 + 2, none⟩ = some (.slice none 0 0) ∧ w.cell? ⟨g, nn * 7 + 3, none⟩ = some (.int .i64 0) ∧ w.cell? ⟨g, nn * 7 + 4, none⟩ = some (.slice none 0 0) ∧ w.cell? ⟨g, nn * 7 + 5, none⟩ = some (.bool false) ∧ w.cell? ⟨g, nn * 7 + 6, none⟩ = some (.string ⟨#[]⟩) := by
  have hc : ∀ j, j < 7 → w.cell? ⟨g, nn * 7 + j, none⟩ = (ncell 0 ⟨#[]⟩)[j]? := fun j hj => by
    rw [World.ownsRow.cellAt h (nn * 7 + j) (by omega), List.getElem?_append_right (by omega), hx, Nat.add_sub_cancel_left]
  exact ⟨hc 0 (by omega), hc 1 (by omega), hc 2 (by omega), hc 3 (by omega), hc 4 (by omega), hc 5 (by omega), hc 6 (by omega)⟩

theorem far_block {w w' : World} {row : Option Nat} (hg : w.grownBy w' row) (b : Nat) (hlt : b < w.heap.size) (hne : some b ≠ row) : w'.heap[b]? = w.heap[b]? := hg.block b hlt hne
theorem far_cell {w1 : World} {o : Obj} {w' : World} {row : Option Nat} (hg : ((w1.alloc o).drew).grownBy w' row) (b j : Nat) (hlt : b < ((w1.alloc o).drew).heap.size) (hne : some b ≠ row) : w'.cell? ⟨b, j, none⟩ = ((w1.alloc o).drew).cell? ⟨b, j, none⟩ := World.cell?_of_block (hg.block b hlt hne)
theorem far_frozen {w1 : World} {o : Obj} {w' : World} {row : Option Nat} (hg : ((w1.alloc o).drew).grownBy w' row) (b j : Nat) (hlt : b < ((w1.alloc o).drew).heap.size) (hne : some b ≠ row) : w'.frozen? ⟨b, j, none⟩ = ((w1.alloc o).drew).frozen? ⟨b, j, none⟩ := World.frozen?_of_block (hg.block b hlt hne)

/-- A block of another element type is not the row's. -/
theorem row_apart {B g n cap : Nat} {w w0 : World} {xs : List Value} {F : Nat} {cs : Array Value} {t : TypeId} {ht : t ≠ 48} (h : w.ownsRow B 48 7 (.slice (some ⟨g, 0, none⟩) n cap) n xs) (he : w.heap[F]? = w0.heap[F]?) (hF : w0.heap[F]? = some (.cells cs t (0, 0))) : g ≠ F := by
  rintro rfl
  rcases h.2 with ⟨hv, _⟩ | ⟨g', cap', cur, hv, _, hh, _⟩
  · cases hv
  · cases hv
    rw [he, hF] at hh
    simp at hh
    exact ht hh.2

/-- The seven stores of a node. -/
def put7 (w : World) (g o k : Nat) (t : ByteArray) : World :=
  ((((((w.setCell ⟨g, o, none⟩ (.int .i64 k)).setCell ⟨g, o + 1, none⟩ (.string t)).setCell ⟨g, o + 2, none⟩ (.slice none 0 0)).setCell ⟨g, o + 3, none⟩ (.int .i64 0)).setCell ⟨g, o + 4, none⟩ (.slice none 0 0)).setCell ⟨g, o + 5, none⟩ (.bool false)).setCell ⟨g, o + 6, none⟩ (.string ⟨#[]⟩)

theorem set_at (xs l : List Value) (m j : Nat) (u : Value) (hx : xs.length = m) : (xs ++ l).set (m + j) u = xs ++ l.set j u := by
  subst hx
  rw [List.set_append_right _ _ (by omega), Nat.add_sub_cancel_left]

theorem put7_own {B g cap nn k : Nat} {t : ByteArray} {w : World} {xs : List Value} (h : w.ownsRow B 48 7 (.slice (some ⟨g, 0, none⟩) (nn + 1) cap) (nn + 1) (xs ++ ncell 0 ⟨#[]⟩)) (hx : xs.length = nn * 7) :
    (put7 w g (nn * 7) k t).ownsRow B 48 7 (.slice (some ⟨g, 0, none⟩) (nn + 1) cap) (nn + 1) (xs ++ ncell k t) := by
  have h0 := (h.stored (nn * 7 + 0) (.int .i64 k)).1
  have h1 := (h0.stored (nn * 7 + 1) (.string t)).1
  have h2 := (h1.stored (nn * 7 + 2) (.slice none 0 0)).1
  have h3 := (h2.stored (nn * 7 + 3) (.int .i64 0)).1
  have h4 := (h3.stored (nn * 7 + 4) (.slice none 0 0)).1
  have h5 := (h4.stored (nn * 7 + 5) (.bool false)).1
  have h6 := (h5.stored (nn * 7 + 6) (.string ⟨#[]⟩)).1
  rw [set_at _ _ _ _ _ hx, set_at _ _ _ _ _ hx, set_at _ _ _ _ _ hx, set_at _ _ _ _ _ hx, set_at _ _ _ _ _ hx, set_at _ _ _ _ _ hx, set_at _ _ _ _ _ hx] at h6
  exact h6

theorem put7_block (w : World) (g o k : Nat) (t : ByteArray) (b : Nat) (h : b ≠ g) : (put7 w g o k t).heap[b]? = w.heap[b]? := by
  unfold put7
  rw [heap_setCell_other _ _ b _ h, heap_setCell_other _ _ b _ h, heap_setCell_other _ _ b _ h, heap_setCell_other _ _ b _ h, heap_setCell_other _ _ b _ h, heap_setCell_other _ _ b _ h, heap_setCell_other _ _ b _ h]

theorem put7_below {B : Nat} {a w : World} (h : Below B a w) (g o k : Nat) (t : ByteArray) (hg : B ≤ g) : Below B a (put7 w g o k t) := by
  unfold put7
  exact ((((((h.setCell hg _).setCell hg _).setCell hg _).setCell hg _).setCell hg _).setCell hg _).setCell hg _

/-- What add leaves, whichever store comes first. -/
theorem add_fin {B P F nn cv k g cap : Nat} {pv : Option Addr} {t : ByteArray} {N : List Node} {fl : Bool} {w w1 w2 : World} {o : Obj} (hP : Par B w P F (.slice pv nn cv) N fl) (hN : N.length = nn) (hb : Below B w w1) (h1P : w1.heap[P]? = w.heap[P]?) (h1F : w1.heap[F]? = w.heap[F]?) (hPl : P < w1.heap.size) (hFl : F < w1.heap.size) (hBl : B ≤ w1.heap.size)
    (hPF : P ≠ F) (hFr : some F ≠ (Value.slice pv nn cv).ownBlock) (hPr : some P ≠ (Value.slice pv nn cv).ownBlock) (hown1 : w1.ownsRow B 48 7 (.slice pv nn cv) nn (ncells N))
    (hown2 : w2.ownsRow B 48 7 (.slice (some ⟨g, 0, none⟩) (nn + 1) cap) (nn + 1) (ncells N ++ ncell 0 ⟨#[]⟩)) (hgrow : ((w1.alloc o).drew).grownBy w2 (Value.slice pv nn cv).ownBlock) :
    (Par B ((put7 w2 g (nn * 7) k t).setCell ⟨F, 7, none⟩ (.slice (some ⟨g, 0, none⟩) (nn + 1) cap)) P F (.slice (some ⟨g, 0, none⟩) (nn + 1) cap) (N ++ [(k, t)]) fl ∧ Below B w ((put7 w2 g (nn * 7) k t).setCell ⟨F, 7, none⟩ (.slice (some ⟨g, 0, none⟩) (nn + 1) cap))) ∧
    (Par B (put7 (w2.setCell ⟨F, 7, none⟩ (.slice (some ⟨g, 0, none⟩) (nn + 1) cap)) g (nn * 7) k t) P F (.slice (some ⟨g, 0, none⟩) (nn + 1) cap) (N ++ [(k, t)]) fl ∧ Below B w (put7 (w2.setCell ⟨F, 7, none⟩ (.slice (some ⟨g, 0, none⟩) (nn + 1) cap)) g (nn * 7) k t)) := by
  have hs : ((w1.alloc o).drew).heap.size = w1.heap.size + 1 := by show (w1.alloc o).heap.size = _; simp
  have e2 : ∀ b, b < w1.heap.size → some b ≠ (Value.slice pv nn cv).ownBlock → w2.heap[b]? = w1.heap[b]? := fun b hb hr => (hgrow.block b (by rw [hs]; omega) hr).trans (Below.heap_alloc w1 o b hb)
  have hpb : w2.heap[P]? = some (.cells (pcells fl F) 42 (0, 0)) := (e2 P hPl hPr).trans (h1P.trans hP.pb)
  have hfb : w2.heap[F]? = some (.cells (fcells (.slice pv nn cv)) 50 (0, 0)) := (e2 F hFl hFr).trans (h1F.trans hP.fb)
  have hgF : g ≠ F := row_apart (ht := by decide) hown2 rfl hfb
  have hgP : g ≠ P := row_apart (ht := by decide) hown2 rfl hpb
  have hgB : B ≤ g := (hown2.lt g rfl).1
  have hx : (ncells N).length = nn * 7 := by rw [ncells_length, hN]
  have hfin : N.length + 1 = nn + 1 := by omega
  have hnc : ncells N ++ ncell k t = ncells (N ++ [(k, t)]) := by rw [ncells_append]; simp [ncells]
  have hlen : (N ++ [(k, t)]).length = nn + 1 := by simp [hN]
  have hb2 : Below B w w2 := ((hb.alloc hBl o).drew).grown hgrow (by rw [hs]; omega) (fun j hj => (hown1.lt j hj).1)
  refine ⟨⟨⟨?_, ?_, ?_, hP.bp, hP.bf⟩, (put7_below hb2 g _ k t hgB).setCell hP.bf _⟩, ⟨?_, ?_, ?_, hP.bp, hP.bf⟩, put7_below (hb2.setCell hP.bf _) g _ k t hgB⟩
  · rw [heap_setCell_other _ _ P _ hPF, put7_block _ _ _ _ _ P (Ne.symm hgP)]; exact hpb
  · rw [heap_setCell_same _ F 7 (fcells (.slice pv nn cv)) 50 _ (by rw [put7_block _ _ _ _ _ F (Ne.symm hgF)]; exact hfb)]; rfl
  · rw [hlen, ← hnc]
    exact ownsRow_setCell_other (put7_own hown2 hx) (by simp [Value.ownBlock]; exact hgF) _
  · rw [put7_block _ _ _ _ _ P (Ne.symm hgP), heap_setCell_other _ _ P _ hPF]; exact hpb
  · rw [put7_block _ _ _ _ _ F (Ne.symm hgF), heap_setCell_same _ F 7 (fcells (.slice pv nn cv)) 50 _ hfb]; rfl
  · rw [hlen, ← hnc]
    exact put7_own (ownsRow_setCell_other hown2 (by simp [Value.ownBlock]; exact hgF) _) hx

def AddPost (B : Nat) (w : World) (P F nn : Nat) (N : List Node) (fl : Bool) (w' : World) : Prop := ∃ g cap, Par B w' P F (.slice (some ⟨g, 0, none⟩) (nn + 1) cap) N fl ∧ Below B w w'

theorem add_close {B P F nn k g cap : Nat} {t : ByteArray} {N : List Node} {fl : Bool} {w w2 W : World}
    (h : (Par B ((put7 w2 g (nn * 7) k t).setCell ⟨F, 7, none⟩ (.slice (some ⟨g, 0, none⟩) (nn + 1) cap)) P F (.slice (some ⟨g, 0, none⟩) (nn + 1) cap) N fl ∧ Below B w ((put7 w2 g (nn * 7) k t).setCell ⟨F, 7, none⟩ (.slice (some ⟨g, 0, none⟩) (nn + 1) cap))) ∧
      (Par B (put7 (w2.setCell ⟨F, 7, none⟩ (.slice (some ⟨g, 0, none⟩) (nn + 1) cap)) g (nn * 7) k t) P F (.slice (some ⟨g, 0, none⟩) (nn + 1) cap) N fl ∧ Below B w (put7 (w2.setCell ⟨F, 7, none⟩ (.slice (some ⟨g, 0, none⟩) (nn + 1) cap)) g (nn * 7) k t)))
    (hW : W = ((((((((w2.setCell ⟨g, nn * 7, none⟩ (.int .i64 k)).setCell ⟨g, nn * 7 + 1, none⟩ (.string t)).setCell ⟨g, nn * 7 + 2, none⟩ (.slice none 0 0)).setCell ⟨g, nn * 7 + 3, none⟩ (.int .i64 0)).setCell ⟨g, nn * 7 + 4, none⟩ (.slice none 0 0)).setCell ⟨g, nn * 7 + 5, none⟩ (.bool false)).setCell ⟨g, nn * 7 + 6, none⟩ (.string ⟨#[]⟩)).setCell ⟨F, 7, none⟩ (.slice (some ⟨g, 0, none⟩) (nn + 1) cap)) ∨
      W = ((((((((w2.setCell ⟨F, 7, none⟩ (.slice (some ⟨g, 0, none⟩) (nn + 1) cap)).setCell ⟨g, nn * 7, none⟩ (.int .i64 k)).setCell ⟨g, nn * 7 + 1, none⟩ (.string t)).setCell ⟨g, nn * 7 + 2, none⟩ (.slice none 0 0)).setCell ⟨g, nn * 7 + 3, none⟩ (.int .i64 0)).setCell ⟨g, nn * 7 + 4, none⟩ (.slice none 0 0)).setCell ⟨g, nn * 7 + 5, none⟩ (.bool false)).setCell ⟨g, nn * 7 + 6, none⟩ (.string ⟨#[]⟩))) : AddPost B w P F nn N fl W := by
  rcases hW with rfl | rfl
  · exact ⟨g, cap, h.1⟩
  · exact ⟨g, cap, h.2⟩

set_option maxHeartbeats 4000000 in
set_option maxRecDepth 100000 in
theorem add_any (B P F : Nat) (pv : Option Addr) (nn cv k : Nat) (t : ByteArray) (N : List Node) (fl : Bool) (w : World) (hn : nn ≤ 4194304) (hN : N.length = nn) (hP : Par B w P F (.slice pv nn cv) N fl) :
    Calls Try.prog 23 #[.pointer (some ⟨P, 0, none⟩), .agg #[.int .i64 k, .string t, .slice none 0 0, .int .i64 0, .slice none 0 0, .bool false, .string ⟨#[]⟩]] w fun e w' => e = .returned (.tuple #[]) ∧ AddPost B w P F nn (N ++ [(k, t)]) fl w' := by
  have hp8 : w.cell? ⟨P, 8, none⟩ = some (.slice (some ⟨F, 0, none⟩) 1 1) := cell_of_row w P 8 _ _ _ hP.pb
  have hf7 : w.cell? ⟨F, 7, none⟩ = some (.slice pv nn cv) := cell_of_row w F 7 _ _ _ hP.fb
  have hff : w.frozen? ⟨F, 7, none⟩ = false := frozen_of_row w F 7 _ _ hP.fb
  have hFl : F < w.heap.size := block_lt_of_cell hf7
  have hPl : P < w.heap.size := block_lt_of_cell hp8
  have hz : (0 : Int) < 1 := by omega
  go_enter Try.func23, Try.ntmps23
  go_wp2
  go_quiet (fail)
  go_wp2
  obtain ⟨i0, hi, hz0, hz1, hz2⟩ := info_parts info48
  have hbelow : Below w.heap.size w ((w.alloc (.cells #[.int .i64 k, .string t, .slice none 0 0, .int .i64 0, .slice none 0 0, .bool false, .string ⟨#[]⟩] 48)).drewN nq) := ((Below.refl _ _).alloc (Nat.le_refl _) _).trans ⟨rfl, rfl, rfl, Nat.le_refl _, fun _ _ => rfl⟩
  have hX : ((w.alloc (.cells #[.int .i64 k, .string t, .slice none 0 0, .int .i64 0, .slice none 0 0, .bool false, .string ⟨#[]⟩] 48)).drewN nq).heap[w.heap.size]? = some (.cells #[.int .i64 k, .string t, .slice none 0 0, .int .i64 0, .slice none 0 0, .bool false, .string ⟨#[]⟩] 48 (0, 0)) := heap_alloc_new w _
  have hsz : ((w.alloc (.cells #[.int .i64 k, .string t, .slice none 0 0, .int .i64 0, .slice none 0 0, .bool false, .string ⟨#[]⟩] 48)).drewN nq).heap.size = w.heap.size + 1 := by show (w.alloc _).heap.size = _; simp
  generalize (w.alloc (.cells #[.int .i64 k, .string t, .slice none 0 0, .int .i64 0, .slice none 0 0, .bool false, .string ⟨#[]⟩] 48)).drewN nq = w1 at hbelow hX hsz ⊢
  have HOWN : Hid (w1.ownsRow B 48 7 (.slice pv nn cv) nn (ncells N)) := by
    have h := hP.own
    rw [hN] at h
    exact World.ownsRow.kept h (row := none) ⟨hbelow.os, hbelow.tape, hbelow.output, hbelow.size, fun j hj _ => hbelow.block j hj⟩ (by cases hv : (Value.slice pv nn cv).ownBlock <;> simp)
  have g7 : w1.cell? ⟨F, 7, none⟩ = some (.slice pv nn cv) := by rw [hbelow.cell (p := ⟨F, 7, none⟩) hFl]; exact hf7
  have gf : w1.frozen? ⟨F, 7, none⟩ = false := by rw [hbelow.frozen (p := ⟨F, 7, none⟩) hFl]; exact hff
  have x0 : w1.cell? ⟨w.heap.size, 0, none⟩ = some (.int .i64 k) := cell_of_row w1 _ 0 _ _ _ hX
  have x1 : w1.cell? ⟨w.heap.size, 1, none⟩ = some (.string t) := cell_of_row w1 _ 1 _ _ _ hX
  have x2 : w1.cell? ⟨w.heap.size, 2, none⟩ = some (.slice none 0 0) := cell_of_row w1 _ 2 _ _ _ hX
  have x3 : w1.cell? ⟨w.heap.size, 3, none⟩ = some (.int .i64 0) := cell_of_row w1 _ 3 _ _ _ hX
  have x4 : w1.cell? ⟨w.heap.size, 4, none⟩ = some (.slice none 0 0) := cell_of_row w1 _ 4 _ _ _ hX
  have x5 : w1.cell? ⟨w.heap.size, 5, none⟩ = some (.bool false) := cell_of_row w1 _ 5 _ _ _ hX
  have x6 : w1.cell? ⟨w.heap.size, 6, none⟩ = some (.string ⟨#[]⟩) := cell_of_row w1 _ 6 _ _ _ hX
  have hXl : w.heap.size < w1.heap.size := by omega
  have hFl1 : F < w1.heap.size := by omega
  have hPl1 : P < w1.heap.size := by omega
  have hBl1 : Hid (B ≤ w1.heap.size) := by have := hP.bp; show B ≤ w1.heap.size; omega
  have HBw : Hid (B ≤ w.heap.size) := by have := hP.bp; show B ≤ w.heap.size; omega
  generalize w.heap.size = X at *
  clear hp8 hf7 hff hz
  have hPF : P ≠ F := fun e => by
    have h1 := hP.pb
    rw [e, hP.fb] at h1
    simp at h1
  have hFr : some F ≠ (Value.slice pv nn cv).ownBlock := fun e => by
    rcases hP.own.2 with ⟨hv, _⟩ | ⟨g, cap, cur, hv, _, hh, _⟩
    · rw [hv] at e; simp [Value.ownBlock] at e
    · rw [hv] at e
      have e : F = g := by simpa [Value.ownBlock] using e
      subst e
      rw [hP.fb] at hh
      simp at hh
  have hPr : some P ≠ (Value.slice pv nn cv).ownBlock := fun e => by
    rcases hP.own.2 with ⟨hv, _⟩ | ⟨g, cap, cur, hv, _, hh, _⟩
    · rw [hv] at e; simp [Value.ownBlock] at e
    · rw [hv] at e
      have e : P = g := by simpa [Value.ownBlock] using e
      subst e
      rw [hP.pb] at hh
      simp at hh
  have hownZ : Hid (((w1.alloc (.cells #[.int .i64 0, .string ⟨#[]⟩, .slice none 0 0, .int .i64 0, .slice none 0 0, .bool false, .string ⟨#[]⟩] 48)).drew).ownsRow B 48 7 (.slice pv nn cv) nn (ncells N)) := World.ownsRow.alloc (w := w1) HOWN.out _
  have hHZ : Hid (((w1.alloc (.cells #[.int .i64 0, .string ⟨#[]⟩, .slice none 0 0, .int .i64 0, .slice none 0 0, .bool false, .string ⟨#[]⟩] 48)).drew).heap.size = X + 2) := by show (w1.alloc _).heap.size = _; simp; omega
  have hnewsZ : Hid (∀ j u, (ncell 0 ⟨#[]⟩)[j]? = some u → ((w1.alloc (.cells #[.int .i64 0, .string ⟨#[]⟩, .slice none 0 0, .int .i64 0, .slice none 0 0, .bool false, .string ⟨#[]⟩] 48)).drew).cell? ((⟨X + 1, 0, none⟩ : Addr).add j) = some u) := by
    have hh : ((w1.alloc (.cells #[.int .i64 0, .string ⟨#[]⟩, .slice none 0 0, .int .i64 0, .slice none 0 0, .bool false, .string ⟨#[]⟩] 48)).drew).heap[X + 1]? = some (.cells #[.int .i64 0, .string ⟨#[]⟩, .slice none 0 0, .int .i64 0, .slice none 0 0, .bool false, .string ⟨#[]⟩] 48 (0, 0)) := by
      rw [← hsz]; exact heap_alloc_new w1 _
    exact World.news_of_block hh
  have hone : Hid (∀ u ∈ ncell 0 ⟨#[]⟩, u.oneCell' = true) := by
    intro u hu
    simp [ncell] at hu
    rcases hu with rfl | rfl | rfl | rfl | rfl | rfl | rfl <;> rfl
  have hidx : (nn : Int) < (nn : Int) + 1 := by omega
  have hidx0 : (0 : Int) ≤ (nn : Int) := by omega
  have hBX : B ≤ X + 2 := by have := hP.bp; omega
  have HFB : Hid (((w1.alloc (.cells #[.int .i64 0, .string ⟨#[]⟩, .slice none 0 0, .int .i64 0, .slice none 0 0, .bool false, .string ⟨#[]⟩] 48)).drew).heap[F]? = some (.cells (fcells (.slice pv nn cv)) 50 (0, 0))) := by
    show (w1.alloc _).heap[F]? = _
    rw [show (w1.alloc _).heap[F]? = w1.heap[F]? from Below.heap_alloc w1 _ F hFl1, hbelow.block F hFl]
    exact hP.fb
  have HP : Hid (Par B w P F (.slice pv nn cv) N fl) := hP
  clear hP
  go_region_law ((refine step_append_lies _ (by rfl) (.tmp 19) (.tmp 22) 46 (by rfl) B 48 i0 (.agg #[.int .i64 0, .string ⟨#[]⟩, .slice none 0 0, .int .i64 0, .slice none 0 0, .bool false, .string ⟨#[]⟩]) 7 104 Try.underlying46 hi hz0 hz1 hz2 (by rfl) (by decide) (.slice pv nn cv) nn (ncells N) (by rfl) hownZ.out ⟨X + 1, 0, none⟩ 1 1 (ncell 0 ⟨#[]⟩) (by rfl) (by rfl) hnewsZ.out hone.out (by decide) (by unfold maxLen; omega) (by omega) (by rw [hHZ.out]; exact hBX) (X + 2) hHZ.out ?_; intro g cap w2 hown2 hgrow hat hlt; obtain ⟨r0, r1, r2, r3, r4, r5, r6⟩ := row_cells hown2 HOWN.out.1; have q7 := far_cell hgrow F 7 (by rw [hHZ.out]; omega) hFr; have q8 := far_frozen hgrow F 7 (by rw [hHZ.out]; omega) hFr; have z0 := hown2.frozenAt (nn * 7); have z1 := hown2.frozenAt (nn * 7 + 1); have z2 := hown2.frozenAt (nn * 7 + 2); have z3 := hown2.frozenAt (nn * 7 + 3); have z4 := hown2.frozenAt (nn * 7 + 4); have z5 := hown2.frozenAt (nn * 7 + 5); have z6 := hown2.frozenAt (nn * 7 + 6); have hgF : g ≠ F := row_apart (ht := by decide) hown2 (far_block hgrow F (by rw [hHZ.out]; omega) hFr) HFB.out))
  all_goals
    have FIN := add_fin (k := k) (t := t) HP.out hN (hbelow.mono HBw.out) (hbelow.block P hPl) (hbelow.block F hFl) hPl1 hFl1 hBl1.out hPF hFr hPr HOWN.out hown2 hgrow
    clear r0 r1 r2 r3 r4 r5 r6 z0 z1 z2 z3 z4 z5 z6 q7 q8 x0 x1 x2 x3 x4 x5 x6 g7 gf hgrow hown2 hownZ hHZ hnewsZ hone HFB HOWN hgF hX
    go_end0
    refine ⟨rfl, add_close FIN ?_⟩
    simp only [true_or, or_true]
end Go.Proofs.Qxb6602523a
