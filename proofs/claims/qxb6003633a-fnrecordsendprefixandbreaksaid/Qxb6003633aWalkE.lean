/-
  SEAT b6003633a: the second law: slices that the law itself has made, whether nil or not, under one word.
-/
import Derived.Test.Qxb6003633aWalkD
namespace Go.Proofs.Qxb6003633a
open Go.RowKit Math

/-- A slice of bytes that is nil, or lies at the head of a block of the world. -/
def Own (w : World) (p : Option Addr) (n c : Nat) (f : Nat → Int) : Prop :=
  (p = none ∧ n = 0 ∧ c = 0) ∨ ∃ B, p = some ⟨B, 0, none⟩ ∧ n ≤ c ∧ B < w.heap.size ∧ ∀ j, j < n → w.cell? ⟨B, j, none⟩ = some (.int .u8 (f j))

theorem Own.later {w w' : World} {p : Option Addr} {n c : Nat} {f : Nat → Int} (h : Own w p n c f) (hb : Below w.heap.size w w') : Own w' p n c f := by
  rcases h with h | ⟨B, h1, h2, h3, h4⟩
  · exact .inl h
  · exact .inr ⟨B, h1, h2, Nat.lt_of_lt_of_le h3 hb.size, fun j hj => by rw [hb.cell (p := ⟨B, j, none⟩) h3]; exact h4 j hj⟩

theorem Own.upto {w : World} {p : Option Addr} {n c : Nat} {f : Nat → Int} (h : Own w p n c f) (r : Nat) (hr : r ≤ n) : Own w p r c f := by
  rcases h with ⟨h1, h2, h3⟩ | ⟨B, h1, h2, h3, h4⟩
  · exact .inl ⟨h1, by omega, h3⟩
  · exact .inr ⟨B, h1, by omega, h3, fun j hj => h4 j (by omega)⟩

theorem Own.at {w : World} {p : Option Addr} {n c : Nat} {f : Nat → Int} (h : Own w p n c f) (k : Nat) (hk : k < n) : ∃ B, p = some ⟨B, 0, none⟩ ∧ B < w.heap.size ∧ w.cell? ⟨B, k, none⟩ = some (.int .u8 (f k)) := by
  rcases h with ⟨h1, h2, h3⟩ | ⟨B, h1, h2, h3, h4⟩
  · omega
  · exact ⟨B, h1, h3, h4 k hk⟩

theorem Own.cap {w : World} {p : Option Addr} {n c : Nat} {f : Nat → Int} (h : Own w p n c f) : n ≤ c := by
  rcases h with ⟨h1, h2, h3⟩ | ⟨B, h1, h2, h3, h4⟩ <;> omega

theorem export_own (p : Option Addr) (n c v : Nat) (f : Nat → Int) (w : World) (hn : n ≤ 1048577) (hv : Hid (best f n = v)) (hw : ∀ j, j < n → 0 ≤ f j ∧ f j < 256) (h : Own w p n c f) :
    Calls Try.prog 11 #[.slice p n c] w fun e w' => e = .returned (.int .i64 v) ∧ Below w.heap.size w w' := by
  rw [← hv.out]
  rcases h with ⟨rfl, rfl, rfl⟩ | ⟨B, rfl, h2, h3, h4⟩
  · exact export_nil w
  · exact export_at B 0 n c f w hn h2 h3 hw (fun j hj => by rw [Nat.zero_add]; exact h4 j hj)

theorem clone_own (a : Option Addr) (len cap : Nat) (zs : List Int) (w : World) (hn : len ≤ 1048576) (w0 : IsRow .u8 w a len cap zs) :
    ∃ f : Nat → Int, (∀ j, j < len → 0 ≤ f j ∧ f j < 256) ∧ ∀ W : World, Below w.heap.size w W → Calls Try.prog 10 #[.slice a len cap] W fun e w' => ∃ p c, e = .returned (.slice p len c) ∧ Own w' p len c f ∧ Below W.heap.size W w' := by
  rcases view_bytes w0 with ⟨rfl, rfl, rfl⟩ | ⟨x, b, o, f, rfl, hx, hc, hw⟩
  · refine ⟨fun _ => 0, fun j hj => absurd hj (Nat.not_lt_zero _), fun W hW => ?_⟩
    refine (clone_nil W).mono ?_
    rintro e w' ⟨rfl, rfl⟩
    exact ⟨none, 0, rfl, .inl ⟨rfl, rfl, rfl⟩, Below.refl _ _⟩
  · refine ⟨f, hw, fun W hW => ?_⟩
    refine (clone_some x b o len cap f W hn (fun h => ⟨(hx h).1, Nat.lt_of_lt_of_le (hx h).2 hW.size⟩) (fun i hi => ?_)).mono ?_
    · rw [hW.cell (p := ⟨b, o + i, none⟩) (hx (by omega)).2]
      exact hc i hi
    · rintro e w' ⟨rfl, hC⟩
      exact ⟨_, _, rfl, .inr ⟨_, rfl, Nat.le_refl _, by have := hC.size; omega, fun j hj => by rw [hC.row.cell hj, if_pos hj]⟩, hC.below⟩

theorem cloned_own {w wr : World} {n : Nat} {f : Nat → Int} (h : Cloned w wr n n f) : Own wr (some ⟨w.heap.size, 0, none⟩) n n f :=
  .inr ⟨_, rfl, Nat.le_refl _, by have := h.size; omega, fun j hj => by rw [h.row.cell hj, if_pos hj]⟩

theorem cloned_step' {w wr : World} {n k : Nat} {f : Nat → Int} (h : Cloned w wr n k f) (v : Int) (hv : v = f k) : Cloned w (wr.setCell ⟨w.heap.size, k, none⟩ (.int .u8 v)) n (k + 1) f := by
  rw [hv]; exact cloned_step h

/-- Two texts, one behind the other. -/
def joinF (n : Nat) (f g : Nat → Int) : Nat → Int := fun i => if i < n then f i else g (i - n)
theorem joinF_lo (n : Nat) (f g : Nat → Int) (k : Nat) (h : k < n) : f k = joinF n f g k := by unfold joinF; rw [if_pos h]
theorem joinF_hi (n : Nat) (f g : Nat → Int) (k : Nat) : g k = joinF n f g (n + k) := by unfold joinF; rw [if_neg (by omega)]; congr 1; omega

theorem best_join (n m : Nat) (f g : Nat → Int) : best f n ≤ best (joinF n f g) (n + m) := by
  rw [best_congr f (joinF n f g) n (fun j hj => joinF_lo n f g j hj)]
  exact best_mono _ _ _ (by omega)

theorem best_break_even (n : Nat) (f : Nat → Int) (h : qc f n % 2 = 0) : best (joinF n f (fun _ => 10)) (n + 1) = n + 1 := by
  refine best_hit _ _ ?_ ?_
  · have := joinF_hi n f (fun _ => 10) 0
    rw [Nat.add_zero] at this
    exact this.symm
  · rw [← qc_congr f _ n (fun j hj => joinF_lo n f _ j hj)]; exact h

theorem best_break_odd (n : Nat) (f : Nat → Int) (h : ¬ qc f n % 2 = 0) : best (joinF n f (fun _ => 10)) (n + 1) = best f n := by
  rw [best_odd, ← best_congr f _ n (fun j hj => joinF_lo n f _ j hj)]
  rw [← qc_congr f _ n (fun j hj => joinF_lo n f _ j hj)]; exact h

theorem bytes_join (n m : Nat) (f g : Nat → Int) (hf : ∀ j, j < n → 0 ≤ f j ∧ f j < 256) (hg : ∀ j, j < m → 0 ≤ g j ∧ g j < 256) : ∀ j, j < n + m → 0 ≤ joinF n f g j ∧ joinF n f g j < 256 := by
  intro j hj
  unfold joinF
  split
  · exact hf j (by assumption)
  · exact hg (j - n) (by omega)

theorem slice_own {w : World} {p : Option Addr} {n c : Nat} {f : Nat → Int} (h : Own w p n c f) (r : Nat) (hr : r ≤ n) (W : World) :
    (Instr.slice 22 (.slice p n c) none (some (.int .i64 r)) none).run Try.prog W = .ok (.slice p r c) W := by
  have hz : ∀ W, (Go.sizeOf (Try.prog.elem 22)).run Try.prog W = .ok 1 W := fun W => by kernel_rfl
  rw [run_slice_h W 22 p n c (by kernel_rfl) .i64 r (by omega) (by have := h.cap; omega), hz]
  simp only [Result.andThen]
  rcases h with ⟨rfl, rfl, rfl⟩ | ⟨B, rfl, h2, h3, h4⟩
  · obtain rfl : r = 0 := by omega
    rfl
  · simp [sliced, Addr.add]
end Go.Proofs.Qxb6003633a
