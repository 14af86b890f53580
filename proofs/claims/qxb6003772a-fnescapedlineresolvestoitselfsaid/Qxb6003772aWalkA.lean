/-
  SEAT b6003772a: the walks of the small functions: the two bounds on lengths, the clone of a slice of bytes.
-/
import Derived.Test.Qxb6003772aRows
import Derived.WalkKit
import Derived.WalkSpells
import Derived.Deep.LoopGhost
import Derived.Deep.OwnRows
import Derived.Deep.Light
import Derived.OpenShut
import Derived.Test.Qxb6003772aMath
import Derived.Deep.QuietTactic
import Derived.BigQuiet
namespace Go.Proofs.Qxb6003772a
open Go.RowKit

theorem info5 : (Try.prog.info? 5).map (fun i => (i.zero, i.size, i.bytes)) = some (some (.int .u8 0), 1, 1) := by kernel_rfl

/-- The clone's row, when k of its cells are filled. -/
structure Cloned (w wr : World) (n k : Nat) (f : Nat → Int) : Prop where
  below : Below w.heap.size w wr
  size : wr.heap.size = w.heap.size + 1
  row : wr.rowIs w.heap.size 5 n (fun i => if i < k then .int .u8 (f i) else .int .u8 0)

theorem cloned_start (w : World) (n : Nat) (f : Nat → Int) : Cloned w (w.alloc (.cells (madeCells #[.int .u8 0] n) 5)) n 0 f :=
  ⟨(Below.refl _ _).alloc (Nat.le_refl _) _, by simp, (World.rowIs_made w _ n 5).congr (fun i _ => by simp)⟩

theorem cloned_step {w wr : World} {n k : Nat} {f : Nat → Int} (h : Cloned w wr n k f) : Cloned w (wr.setCell ⟨w.heap.size, k, none⟩ (.int .u8 (f k))) n (k + 1) f :=
  ⟨h.below.setCell (Nat.le_refl _) _, by simp [h.size], (h.row.set k _).congr (fun i _ => by
    by_cases e : i = k
    · subst e; simp
    · rw [if_neg e]
      by_cases hlt : i < k
      · rw [if_pos hlt, if_pos (by omega)]
      · rw [if_neg hlt, if_neg (by omega)])⟩

set_option maxHeartbeats 400000 in
theorem clone_nil (w : World) : Calls Try.prog 8 #[.slice none 0 0] w fun e w' => e = .returned (.slice none 0 0) ∧ w = w' := by
  have q22 : ∀ (w : World) (a : Option Addr) (n c n' c' : Nat), (binOp .eql 22 (.slice a n c) (.slice none n' c')).run Try.prog w = .ok (.bool a.isNone) w := fun w a n c n' c' => Lib.run_eql_slice_nil w _ _ a n c n' c' Try.underlying22
  go_enter Try.func8, Try.ntmps8
  go_wp2
  go_ret
  exact ⟨rfl, rfl⟩

set_option maxHeartbeats 400000 in
theorem clone_some (x : Addr) (b o n c : Nat) (f : Nat → Int) (w : World) (hn : n ≤ 1048576) (hx : 0 < n → x = ⟨b, o, none⟩ ∧ b < w.heap.size) (hc : ∀ i, i < n → w.cell? ⟨b, o + i, none⟩ = some (.int .u8 (f i))) :
    Calls Try.prog 8 #[.slice (some x) n c] w fun e w' => e = .returned (.slice (some ⟨w.heap.size, 0, none⟩) n n) ∧ Cloned w w' n n f := by
  have q22 : ∀ (w : World) (a : Option Addr) (n c n' c' : Nat), (binOp .eql 22 (.slice a n c) (.slice none n' c')).run Try.prog w = .ok (.bool a.isNone) w := fun w a n c n' c' => Lib.run_eql_slice_nil w _ _ a n c n' c' Try.underlying22
  have hmk := run_make_row' (P := Try.prog) 22 5 (.int .u8 0) 1 Try.underlying22 info5 rfl .i64 .i64 n (by omega) (by omega)
  have HX : Hid (0 < n → x = ⟨b, o, none⟩ ∧ b < w.heap.size) := hx
  clear hx
  go_enter Try.func8, Try.ntmps8
  go_wp2
  clear hmk q22
  go_loopg [4] n (fun g i wr => ∃ k : Nat, k ≤ n ∧ g = n - k ∧ i = .int .i64 k ∧ Cloned w wr n k f)
  case atStart => exact ⟨0, Nat.zero_le _, rfl, rfl, cloned_start w n f⟩
  case round =>
    obtain ⟨k, hk, rfl, rfl, hC⟩ := hrel
    by_cases hlt : k < n
    · obtain ⟨rfl, hb⟩ := HX.out (by omega)
      clear HX
      have hz : (k : Int) < (n : Int) := by omega
      have g0 : wr.cell? ⟨b, o + k, none⟩ = some (.int .u8 (f k)) := by rw [hC.below.cell (p := ⟨b, o + k, none⟩) hb]; exact hc k hlt
      have g1 := hC.row.cell hlt
      have g2 := hC.row.frozen k
      go_wp2
      go_roundg (n - (k + 1))
      case measure => go_light; omega
      case rel => exact ⟨k + 1, by omega, rfl, by go_num, cloned_step hC⟩
    · go_wp2
      go_ret
      have : k = n := by omega
      subst this
      exact ⟨rfl, hC⟩

/-- What the row's own frame tells of a slice of bytes that came in. -/
def IsRow (k : IntKind) (w : World) (a : Option Addr) (len cap : Nat) (zs : List Int) : Prop :=
  (a = none ∧ len = 0 ∧ cap = 0 ∧ zs = []) ∨
  ∃ x, a = some x ∧ len ≤ cap ∧ cap ≤ maxLen ∧ zs.length = cap ∧ (∀ i, i < zs.length → w.cell? (x.add i) = some (.int k (zs.getD i 0))) ∧ ∀ n ∈ zs, (Lit.int k n).wf = true

/-- .. and what the walks ask. -/
theorem view_bytes {w : World} {a : Option Addr} {len cap : Nat} {zs : List Int} (h : IsRow .u8 w a len cap zs) :
    (a = none ∧ len = 0 ∧ cap = 0) ∨ ∃ (x : Addr) (b o : Nat) (f : Nat → Int), a = some x ∧ (0 < len → x = ⟨b, o, none⟩ ∧ b < w.heap.size) ∧ (∀ i, i < len → w.cell? ⟨b, o + i, none⟩ = some (.int .u8 (f i))) ∧ (∀ i, i < len → 0 ≤ f i ∧ f i < 256) := by
  rcases h with ⟨rfl, rfl, rfl, rfl⟩ | ⟨x, rfl, hl, hm, hz, hcell, hwz⟩
  · exact .inl ⟨rfl, rfl, rfl⟩
  · refine .inr ⟨x, x.block, x.off, fun i => zs.getD i 0, rfl, ?_, ?_, ?_⟩
    · intro h0
      have hc := hcell 0 (by omega)
      obtain ⟨b, off, spot⟩ := x
      have hspot : spot = none := by simpa [Addr.add] using World.cell?_spot hc
      subst hspot
      exact ⟨rfl, World.block_lt_of_cell? _ _ (by simpa [Addr.add] using hc)⟩
    · intro i hi
      have hc := hcell i (by omega)
      have hc0 := hcell 0 (by omega)
      obtain ⟨b, off, spot⟩ := x
      have hspot : spot = none := by simpa [Addr.add] using World.cell?_spot hc0
      subst hspot
      rw [WideShapes.add_plain] at hc
      exact hc
    · intro i hi
      have hmem : zs.getD i 0 ∈ zs := by rw [List.getD_eq_getElem?_getD, List.getElem?_eq_getElem (by omega)]; exact List.getElem_mem _
      have := bounds_u8 (hwz _ hmem)
      exact ⟨this.1, by show zs.getD i 0 < 256; omega⟩


/-- Byte i of a text (behind a name of its own, so that the walk does not respell it). -/
def nth (l : List Int) (i : Nat) : Int := l.getD i 0

theorem nth_eq (l : List Int) (i : Nat) (h : i < l.length) : l[i] = nth l i := by unfold nth; rw [List.getD_eq_getElem?_getD, List.getElem?_eq_getElem h]; rfl
theorem nth_lo (a b : List Int) (i : Nat) (h : i < a.length) : nth a i = nth (a ++ b) i := by unfold nth; simp only [List.getD_eq_getElem?_getD]; rw [List.getElem?_append_left h]
theorem nth_hi (a b : List Int) (i : Nat) : nth b i = nth (a ++ b) (a.length + i) := by unfold nth; simp only [List.getD_eq_getElem?_getD]; rw [List.getElem?_append_right (by omega)]; congr 2; omega
theorem nth_drop (l : List Int) (k i : Nat) : nth (l.drop k) i = nth l (k + i) := by unfold nth; simp only [List.getD_eq_getElem?_getD]; rw [List.getElem?_drop]
theorem nth_take (l : List Int) (k i : Nat) (h : i < k) : nth (l.take k) i = nth l i := by unfold nth; simp only [List.getD_eq_getElem?_getD]; rw [List.getElem?_take_of_lt h]
theorem nth_mem (l : List Int) (i : Nat) (h : i < l.length) : nth l i ∈ l := by rw [← nth_eq l i h]; exact List.getElem_mem _

/-- A slice of n bytes that spell l: where there is a byte: at an address of the world; where there is none: whatever the address, nil too. -/
def Txt (w : World) (p : Option Addr) (n c : Nat) (l : List Int) : Prop :=
  l.length = n ∧ n ≤ c ∧ (∀ x ∈ l, 0 ≤ x ∧ x < 256) ∧ (0 < n → ∃ b o, p = some ⟨b, o, none⟩ ∧ b < w.heap.size ∧ ∀ j, j < n → w.cell? ⟨b, o + j, none⟩ = some (.int .u8 (nth l j)))

theorem Txt.later {w w' : World} {p : Option Addr} {n c : Nat} {l : List Int} (h : Txt w p n c l) (hb : Below w.heap.size w w') : Txt w' p n c l := by
  obtain ⟨h0, h1, h2, h3⟩ := h
  refine ⟨h0, h1, h2, fun h => ?_⟩
  obtain ⟨b, o, e, hlt, hc⟩ := h3 h
  exact ⟨b, o, e, Nat.lt_of_lt_of_le hlt hb.size, fun j hj => by rw [hb.cell (p := ⟨b, o + j, none⟩) hlt]; exact hc j hj⟩

theorem Txt.at {w : World} {p : Option Addr} {n c : Nat} {l : List Int} (h : Txt w p n c l) (k : Nat) (hk : k < n) : ∃ b o, p = some ⟨b, o, none⟩ ∧ b < w.heap.size ∧ (∀ j, j < n → w.cell? ⟨b, o + j, none⟩ = some (.int .u8 (nth l j))) := h.2.2.2 (by omega)

/-- A row of a block's own, filled. -/
theorem cloned_txt {w wr : World} {n : Nat} {l : List Int} (h : Cloned w wr n n (nth l)) (hl : l.length = n) (hb : ∀ x ∈ l, 0 ≤ x ∧ x < 256) : Txt wr (some ⟨w.heap.size, 0, none⟩) n n l :=
  ⟨hl, Nat.le_refl _, hb, fun _ => ⟨_, 0, rfl, by have := h.size; omega, fun j hj => by rw [Nat.zero_add, h.row.cell hj, if_pos hj]⟩⟩

theorem cloned_step' {w wr : World} {n k : Nat} {f : Nat → Int} (h : Cloned w wr n k f) (v : Int) (hv : v = f k) : Cloned w (wr.setCell ⟨w.heap.size, k, none⟩ (.int .u8 v)) n (k + 1) f := by
  rw [hv]; exact cloned_step h

/-- zzCopy of an argument. -/
theorem copy_arg {a : Option Addr} {n c : Nat} {zs : List Int} {w : World} (hn : n ≤ 1048576) (w0 : IsRow .u8 w a n c zs) :
    ∃ l : List Int, l.length = n ∧ (∀ x ∈ l, 0 ≤ x ∧ x < 256) ∧ (0 < n → ∃ b o, a = some ⟨b, o, none⟩ ∧ ∀ j, j < n → w.cell? ⟨b, o + j, none⟩ = some (.int .u8 (nth l j))) ∧ ∀ W : World, Below w.heap.size w W → Calls Try.prog 8 #[.slice a n c] W fun e w' => ∃ p c', e = .returned (.slice p n c') ∧ Txt w' p n c' l ∧ Below W.heap.size W w' := by
  rcases view_bytes w0 with ⟨rfl, rfl, rfl⟩ | ⟨x, b, o, f, rfl, hx, hc, hw⟩
  · refine ⟨[], rfl, fun x hx => (by cases hx), fun h => absurd h (Nat.lt_irrefl _), fun W hW => ?_⟩
    refine (clone_nil W).mono ?_
    rintro e w' ⟨rfl, rfl⟩
    exact ⟨none, 0, rfl, ⟨rfl, Nat.le_refl _, fun x hx => (by cases hx), fun h => absurd h (Nat.lt_irrefl _)⟩, Below.refl _ _⟩
  · have hnth : ∀ j, j < n → nth ((List.range n).map f) j = f j := fun j hj => by unfold nth; rw [List.getD_eq_getElem?_getD, List.getElem?_map, List.getElem?_range hj]; rfl
    have hbd : ∀ x ∈ (List.range n).map f, 0 ≤ x ∧ x < 256 := fun x hx => by
      obtain ⟨j, hj, rfl⟩ := List.mem_map.1 hx
      exact hw j (List.mem_range.1 hj)
    refine ⟨(List.range n).map f, by simp, hbd, fun h => ⟨b, o, by rw [(hx h).1], fun j hj => by rw [hnth j hj]; exact hc j hj⟩, fun W hW => ?_⟩
    refine (clone_some x b o n c (nth ((List.range n).map f)) W hn (fun h => ⟨(hx h).1, Nat.lt_of_lt_of_le (hx h).2 hW.size⟩) (fun i hi => ?_)).mono ?_
    · rw [hW.cell (p := ⟨b, o + i, none⟩) (hx (by omega)).2, hnth i hi]
      exact hc i hi
    · rintro e w' ⟨rfl, hC⟩
      exact ⟨_, _, rfl, cloned_txt hC (by simp) hbd, hC.below⟩

set_option maxHeartbeats 1000000 in
/-- zzJoin: a new row: the one text, then the other. -/
theorem join_any (p q : Option Addr) (n m c d : Nat) (s t : List Int) (w : World) (hnm : n + m ≤ 16777216) (h1 : Txt w p n c s) (h2 : Txt w q m d t) :
    Calls Try.prog 14 #[.slice p n c, .slice q m d] w fun e w' => ∃ g, e = .returned (.slice (some ⟨g, 0, none⟩) (n + m) (n + m)) ∧ Txt w' (some ⟨g, 0, none⟩) (n + m) (n + m) (s ++ t) ∧ Below w.heap.size w w' := by
  have hmk := run_make_row' (P := Try.prog) 22 5 (.int .u8 0) 1 Try.underlying22 info5 rfl .i64 .i64 (n + m) (by omega) (by omega)
  rw [show ((n + m : Nat) : Int) = (n : Int) + (m : Int) from by omega] at hmk
  have HS : Hid (s.length = n) := h1.1
  have HB : Hid (∀ x ∈ s ++ t, 0 ≤ x ∧ x < 256) := fun x hx => (List.mem_append.1 hx).elim (h1.2.2.1 x) (h2.2.2.1 x)
  have HL : Hid ((s ++ t).length = n + m) := by show (s ++ t).length = n + m; rw [List.length_append, h1.1, h2.1]
  go_enter Try.func14, Try.ntmps14
  go_wp2
  clear hmk
  go_loopg [6] n (fun gk i wr => ∃ k : Nat, k ≤ n ∧ n - k = gk ∧ i = .int .i64 k ∧ Cloned w wr (n + m) k (nth (s ++ t)))
  case atStart => exact ⟨0, Nat.zero_le _, rfl, rfl, cloned_start w (n + m) _⟩
  case round =>
    obtain ⟨k, hk, rfl, rfl, hC⟩ := hrel
    by_cases hkn : k < n
    · obtain ⟨b, o, rfl, hBlt, hcB⟩ := h1.at k hkn
      have hz : (k : Int) < (n : Int) := by omega
      have hz2 : (k : Int) < (n : Int) + (m : Int) := by omega
      have g0 : wr.cell? ⟨b, o + k, none⟩ = some (.int .u8 (nth s k)) := by rw [hC.below.cell (p := ⟨b, o + k, none⟩) hBlt]; exact hcB k hkn
      have g1 := hC.row.cell (i := k) (by omega)
      have g2 := hC.row.frozen k
      clear hcB h1 h2
      go_wp2
      go_roundg (n - (k + 1))
      case measure => go_light; omega
      case rel => exact ⟨k + 1, by omega, rfl, by go_num, cloned_step' hC _ (nth_lo s t k (by rw [HS.out]; exact hkn))⟩
    have : k = n := by omega
    subst this
    clear hkn hk
    go_wp2
    go_loopg [7] m (fun gk i wr => ∃ j : Nat, j ≤ m ∧ m - j = gk ∧ i = .int .i64 j ∧ Cloned w wr (k + m) (k + j) (nth (s ++ t)))
    case atStart => exact ⟨0, Nat.zero_le _, rfl, rfl, hC⟩
    case round =>
      clear hC
      obtain ⟨j, hj, rfl, rfl, hC⟩ := hrel
      by_cases hjm : j < m
      · obtain ⟨b, o, rfl, hBlt, hcB⟩ := h2.at j hjm
        have hz : (j : Int) < (m : Int) := by omega
        have hz2 : (k : Int) + (j : Int) < (k : Int) + (m : Int) := by omega
        have g0 : wr.cell? ⟨b, o + j, none⟩ = some (.int .u8 (nth t j)) := by rw [hC.below.cell (p := ⟨b, o + j, none⟩) hBlt]; exact hcB j hjm
        have g1 := hC.row.cell (i := k + j) (by omega)
        have g2 := hC.row.frozen (k + j)
        clear hcB h1 h2
        go_wp2
        go_roundg (m - (j + 1))
        case measure => go_light; omega
        case rel => exact ⟨j + 1, by omega, rfl, by go_num, cloned_step' hC _ (by have := nth_hi s t j; rw [HS.out] at this; exact this)⟩
      have : j = m := by omega
      subst this
      clear hjm hj
      go_wp2
      go_ret
      exact ⟨_, rfl, cloned_txt hC HL.out HB.out, hC.below⟩

set_option maxHeartbeats 1000000 in
/-- zzEqual of two slices that spell the same. -/
theorem equal_same (p q : Option Addr) (n c d : Nat) (l : List Int) (w : World) (hn : n ≤ 16777216) (h1 : Txt w p n c l) (h2 : Txt w q n d l) :
    Calls Try.prog 11 #[.slice p n c, .slice q n d] w fun e w' => e = .returned (.bool true) ∧ Below w.heap.size w w' := by
  have hb0 : ((n : Int) != (n : Int)) = false := by simp
  go_enter Try.func11, Try.ntmps11
  go_wp2
  clear hb0
  go_loopg [5] n (fun gk i wr => ∃ k : Nat, k ≤ n ∧ n - k = gk ∧ i = .int .i64 k ∧ Below w.heap.size w wr)
  case atStart => exact ⟨0, Nat.zero_le _, rfl, rfl, Below.refl _ _⟩
  case round =>
    obtain ⟨k, hk, rfl, rfl, hB⟩ := hrel
    by_cases hkn : k < n
    · obtain ⟨b, o, rfl, hlt, hc⟩ := h1.at k hkn
      obtain ⟨b2, o2, rfl, hlt2, hc2⟩ := h2.at k hkn
      have hz : (k : Int) < (n : Int) := by omega
      have g0 : wr.cell? ⟨b, o + k, none⟩ = some (.int .u8 (nth l k)) := by rw [hB.cell (p := ⟨b, o + k, none⟩) hlt]; exact hc k hkn
      have g1 : wr.cell? ⟨b2, o2 + k, none⟩ = some (.int .u8 (nth l k)) := by rw [hB.cell (p := ⟨b2, o2 + k, none⟩) hlt2]; exact hc2 k hkn
      have hbq : (nth l k != nth l k) = false := by simp
      clear hc hc2 h1 h2
      go_wp2
      go_quiet (fail)
      go_wp2
      go_roundg (n - (k + 1))
      case measure => go_light; omega
      case rel => exact ⟨k + 1, by omega, rfl, by go_num, hB.trans ⟨rfl, rfl, rfl, Nat.le_refl _, fun _ _ => rfl⟩⟩
    · go_wp2
      go_ret
      exact ⟨rfl, hB⟩

/-! ### The bounds on the lengths -/
set_option maxHeartbeats 400000 in
theorem bytes7_yes (a : Option Addr) (n c : Nat) (w : World) (h : n ≤ 1048576) : Calls Try.prog 7 #[.slice a n c] w fun e w' => e = .returned (.bool true) ∧ w = w' := by
  go_enter Try.func7, Try.ntmps7
  go_wp2
  go_ret
  exact ⟨rfl, rfl⟩
set_option maxHeartbeats 400000 in
theorem bytes7_no (a : Option Addr) (n c : Nat) (w : World) (h : 1048576 < n) : Calls Try.prog 7 #[.slice a n c] w fun e w' => e = .returned (.bool false) ∧ w = w' := by
  go_enter Try.func7, Try.ntmps7
  go_wp2
  go_ret
  exact ⟨rfl, rfl⟩
set_option maxHeartbeats 400000 in
theorem bytes15_yes (a a' : Option Addr) (n c n' c' : Nat) (w : World) (h : n + n' ≤ 1048576) : Calls Try.prog 15 #[.slice a n c, .slice a' n' c'] w fun e w' => e = .returned (.bool true) ∧ w = w' := by
  go_enter Try.func15, Try.ntmps15
  go_wp2
  go_ret
  exact ⟨rfl, rfl⟩
set_option maxHeartbeats 400000 in
theorem bytes15_no (a a' : Option Addr) (n c n' c' : Nat) (w : World) (h : 1048576 < n + n') : Calls Try.prog 15 #[.slice a n c, .slice a' n' c'] w fun e w' => e = .returned (.bool false) ∧ w = w' := by
  go_enter Try.func15, Try.ntmps15
  go_wp2
  all_goals
    go_ret
    exact ⟨rfl, rfl⟩
end Go.Proofs.Qxb6003772a
