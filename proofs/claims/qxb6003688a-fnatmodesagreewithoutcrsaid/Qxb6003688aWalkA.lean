/-
  SEAT b6003688a: the walks of the small functions: the two bounds on lengths, the clone of a slice of bytes.
-/
import Derived.Test.Qxb6003688aRows
import Derived.WalkKit
import Derived.WalkSpells
import Derived.Deep.LoopGhost
import Derived.Deep.OwnRows
import Derived.Deep.Light
import Derived.OpenShut
namespace Go.Proofs.Qxb6003688a
open Go.RowKit

theorem info5 : (Try.prog.info? 5).map (fun i => (i.zero, i.size, i.bytes)) = some (some (.int .u8 0), 1, 1) := by kernel_rfl

/-- The clone's row, when k of its cells are filled. -/
structure Cloned (w wr : World) (n k : Nat) (f : Nat → Int) : Prop where
  below : Below w.heap.size w wr
  size : wr.heap.size = w.heap.size + 1
  row : wr.rowIs w.heap.size 5 n (fun i => if i < k then .int .u8 (f i) else .int .u8 0)

theorem cloned_start (w : World) (n : Nat) (f : Nat → Int) : Cloned w (w.alloc (.cells (madeCells #[.int .u8 0] n) 5)) n 0 f :=
  ⟨(Below.refl _ _).alloc (Nat.le_refl _) _, by simp, (World.rowIs_made w _ n 5).congr (fun i _ => by simp)⟩

theorem cloned_step {w wr : World} {n k : Nat} {f : Nat → Int} (h : Cloned w wr n k f) : Cloned w (wr.setCell ⟨w.heap.size, k, none⟩ (.int .u8 (f k))) n (k + 1) f :=
  ⟨h.below.setCell (Nat.le_refl _) _, by simp [h.size], (h.row.set k _).congr (fun i _ => by
    by_cases e : i = k
    · subst e; simp
    · rw [if_neg e]
      by_cases hlt : i < k
      · rw [if_pos hlt, if_pos (by omega)]
      · rw [if_neg hlt, if_neg (by omega)])⟩

set_option maxHeartbeats 400000 in
theorem clone_nil (w : World) : Calls Try.prog 8 #[.slice none 0 0] w fun e w' => e = .returned (.slice none 0 0) ∧ w = w' := by
  have q22 : ∀ (w : World) (a : Option Addr) (n c n' c' : Nat), (binOp .eql 22 (.slice a n c) (.slice none n' c')).run Try.prog w = .ok (.bool a.isNone) w := fun w a n c n' c' => Lib.run_eql_slice_nil w _ _ a n c n' c' Try.underlying22
  go_enter Try.func8, Try.ntmps8
  go_wp2
  go_ret
  exact ⟨rfl, rfl⟩

set_option maxHeartbeats 400000 in
theorem clone_some (x : Addr) (b o n c : Nat) (f : Nat → Int) (w : World) (hn : n ≤ 1048576) (hx : 0 < n → x = ⟨b, o, none⟩ ∧ b < w.heap.size) (hc : ∀ i, i < n → w.cell? ⟨b, o + i, none⟩ = some (.int .u8 (f i))) :
    Calls Try.prog 8 #[.slice (some x) n c] w fun e w' => e = .returned (.slice (some ⟨w.heap.size, 0, none⟩) n n) ∧ Cloned w w' n n f := by
  have q22 : ∀ (w : World) (a : Option Addr) (n c n' c' : Nat), (binOp .eql 22 (.slice a n c) (.slice none n' c')).run Try.prog w = .ok (.bool a.isNone) w := fun w a n c n' c' => Lib.run_eql_slice_nil w _ _ a n c n' c' Try.underlying22
  have hmk := run_make_row' (P := Try.prog) 22 5 (.int .u8 0) 1 Try.underlying22 info5 rfl .i64 .i64 n (by omega) (by omega)
  have HX : Hid (0 < n → x = ⟨b, o, none⟩ ∧ b < w.heap.size) := hx
  clear hx
  go_enter Try.func8, Try.ntmps8
  go_wp2
  clear hmk q22
  go_loopg [4] n (fun g i wr => ∃ k : Nat, k ≤ n ∧ g = n - k ∧ i = .int .i64 k ∧ Cloned w wr n k f)
  case atStart => exact ⟨0, Nat.zero_le _, rfl, rfl, cloned_start w n f⟩
  case round =>
    obtain ⟨k, hk, rfl, rfl, hC⟩ := hrel
    by_cases hlt : k < n
    · obtain ⟨rfl, hb⟩ := HX.out (by omega)
      clear HX
      have hz : (k : Int) < (n : Int) := by omega
      have g0 : wr.cell? ⟨b, o + k, none⟩ = some (.int .u8 (f k)) := by rw [hC.below.cell (p := ⟨b, o + k, none⟩) hb]; exact hc k hlt
      have g1 := hC.row.cell hlt
      have g2 := hC.row.frozen k
      go_wp2
      go_roundg (n - (k + 1))
      case measure => go_light; omega
      case rel => exact ⟨k + 1, by omega, rfl, by go_num, cloned_step hC⟩
    · go_wp2
      go_ret
      have : k = n := by omega
      subst this
      exact ⟨rfl, hC⟩

theorem info38 : (Try.prog.info? 38).map (fun i => (i.zero, i.size, i.bytes)) = some (some (.int .u32 0), 1, 4) := by kernel_rfl

/-- The clone's row, when k of its cells are filled. -/
structure Cloned32 (w wr : World) (n k : Nat) (f : Nat → Int) : Prop where
  below : Below w.heap.size w wr
  size : wr.heap.size = w.heap.size + 1
  row : wr.rowIs w.heap.size 38 n (fun i => if i < k then .int .u32 (f i) else .int .u32 0)

theorem cloned32_start (w : World) (n : Nat) (f : Nat → Int) : Cloned32 w (w.alloc (.cells (madeCells #[.int .u32 0] n) 38)) n 0 f :=
  ⟨(Below.refl _ _).alloc (Nat.le_refl _) _, by simp, (World.rowIs_made w _ n 38).congr (fun i _ => by simp)⟩

theorem cloned32_step {w wr : World} {n k : Nat} {f : Nat → Int} (h : Cloned32 w wr n k f) : Cloned32 w (wr.setCell ⟨w.heap.size, k, none⟩ (.int .u32 (f k))) n (k + 1) f :=
  ⟨h.below.setCell (Nat.le_refl _) _, by simp [h.size], (h.row.set k _).congr (fun i _ => by
    by_cases e : i = k
    · subst e; simp
    · rw [if_neg e]
      by_cases hlt : i < k
      · rw [if_pos hlt, if_pos (by omega)]
      · rw [if_neg hlt, if_neg (by omega)])⟩

set_option maxHeartbeats 400000 in
theorem clone32_nil (w : World) : Calls Try.prog 14 #[.slice none 0 0] w fun e w' => e = .returned (.slice none 0 0) ∧ w = w' := by
  have q33 : ∀ (w : World) (a : Option Addr) (n c n' c' : Nat), (binOp .eql 33 (.slice a n c) (.slice none n' c')).run Try.prog w = .ok (.bool a.isNone) w := fun w a n c n' c' => Lib.run_eql_slice_nil w _ _ a n c n' c' Try.underlying33
  go_enter Try.func14, Try.ntmps14
  go_wp2
  go_ret
  exact ⟨rfl, rfl⟩

set_option maxHeartbeats 400000 in
theorem clone32_some (x : Addr) (b o n c : Nat) (f : Nat → Int) (w : World) (hn : n ≤ 1048576) (hx : 0 < n → x = ⟨b, o, none⟩ ∧ b < w.heap.size) (hc : ∀ i, i < n → w.cell? ⟨b, o + i, none⟩ = some (.int .u32 (f i))) :
    Calls Try.prog 14 #[.slice (some x) n c] w fun e w' => e = .returned (.slice (some ⟨w.heap.size, 0, none⟩) n n) ∧ Cloned32 w w' n n f := by
  have q33 : ∀ (w : World) (a : Option Addr) (n c n' c' : Nat), (binOp .eql 33 (.slice a n c) (.slice none n' c')).run Try.prog w = .ok (.bool a.isNone) w := fun w a n c n' c' => Lib.run_eql_slice_nil w _ _ a n c n' c' Try.underlying33
  have hmk := run_make_row' (P := Try.prog) 33 38 (.int .u32 0) 4 Try.underlying33 info38 rfl .i64 .i64 n (by omega) (by omega)
  have HX : Hid (0 < n → x = ⟨b, o, none⟩ ∧ b < w.heap.size) := hx
  clear hx
  go_enter Try.func14, Try.ntmps14
  go_wp2
  clear hmk q33
  go_loopg [4] n (fun g i wr => ∃ k : Nat, k ≤ n ∧ g = n - k ∧ i = .int .i64 k ∧ Cloned32 w wr n k f)
  case atStart => exact ⟨0, Nat.zero_le _, rfl, rfl, cloned32_start w n f⟩
  case round =>
    obtain ⟨k, hk, rfl, rfl, hC⟩ := hrel
    by_cases hlt : k < n
    · obtain ⟨rfl, hb⟩ := HX.out (by omega)
      clear HX
      have hz : (k : Int) < (n : Int) := by omega
      have g0 : wr.cell? ⟨b, o + k, none⟩ = some (.int .u32 (f k)) := by rw [hC.below.cell (p := ⟨b, o + k, none⟩) hb]; exact hc k hlt
      have g1 := hC.row.cell hlt
      have g2 := hC.row.frozen k
      go_wp2
      go_roundg (n - (k + 1))
      case measure => go_light; omega
      case rel => exact ⟨k + 1, by omega, rfl, by go_num, cloned32_step hC⟩
    · go_wp2
      go_ret
      have : k = n := by omega
      subst this
      exact ⟨rfl, hC⟩

/-- What the row's own frame tells of a slice of bytes that came in. -/
def IsRow (k : IntKind) (w : World) (a : Option Addr) (len cap : Nat) (zs : List Int) : Prop :=
  (a = none ∧ len = 0 ∧ cap = 0 ∧ zs = []) ∨
  ∃ x, a = some x ∧ len ≤ cap ∧ cap ≤ maxLen ∧ zs.length = cap ∧ (∀ i, i < zs.length → w.cell? (x.add i) = some (.int k (zs.getD i 0))) ∧ ∀ n ∈ zs, (Lit.int k n).wf = true

/-- .. and what the walks ask. -/
theorem view_bytes {w : World} {a : Option Addr} {len cap : Nat} {zs : List Int} (h : IsRow .u8 w a len cap zs) :
    (a = none ∧ len = 0 ∧ cap = 0) ∨ ∃ (x : Addr) (b o : Nat) (f : Nat → Int), a = some x ∧ (0 < len → x = ⟨b, o, none⟩ ∧ b < w.heap.size) ∧ (∀ i, i < len → w.cell? ⟨b, o + i, none⟩ = some (.int .u8 (f i))) ∧ (∀ i, i < len → 0 ≤ f i ∧ f i < 256) := by
  rcases h with ⟨rfl, rfl, rfl, rfl⟩ | ⟨x, rfl, hl, hm, hz, hcell, hwz⟩
  · exact .inl ⟨rfl, rfl, rfl⟩
  · refine .inr ⟨x, x.block, x.off, fun i => zs.getD i 0, rfl, ?_, ?_, ?_⟩
    · intro h0
      have hc := hcell 0 (by omega)
      obtain ⟨b, off, spot⟩ := x
      have hspot : spot = none := by simpa [Addr.add] using World.cell?_spot hc
      subst hspot
      exact ⟨rfl, World.block_lt_of_cell? _ _ (by simpa [Addr.add] using hc)⟩
    · intro i hi
      have hc := hcell i (by omega)
      have hc0 := hcell 0 (by omega)
      obtain ⟨b, off, spot⟩ := x
      have hspot : spot = none := by simpa [Addr.add] using World.cell?_spot hc0
      subst hspot
      rw [WideShapes.add_plain] at hc
      exact hc
    · intro i hi
      have hmem : zs.getD i 0 ∈ zs := by rw [List.getD_eq_getElem?_getD, List.getElem?_eq_getElem (by omega)]; exact List.getElem_mem _
      have := bounds_u8 (hwz _ hmem)
      exact ⟨this.1, by show zs.getD i 0 < 256; omega⟩

/-- .. and what the walks ask. -/
theorem view_u32 {w : World} {a : Option Addr} {len cap : Nat} {zs : List Int} (h : IsRow .u32 w a len cap zs) :
    (a = none ∧ len = 0 ∧ cap = 0) ∨ ∃ (x : Addr) (b o : Nat) (f : Nat → Int), a = some x ∧ (0 < len → x = ⟨b, o, none⟩ ∧ b < w.heap.size) ∧ (∀ i, i < len → w.cell? ⟨b, o + i, none⟩ = some (.int .u32 (f i))) ∧ (∀ i, i < len → 0 ≤ f i ∧ f i < 4294967296) := by
  rcases h with ⟨rfl, rfl, rfl, rfl⟩ | ⟨x, rfl, hl, hm, hz, hcell, hwz⟩
  · exact .inl ⟨rfl, rfl, rfl⟩
  · refine .inr ⟨x, x.block, x.off, fun i => zs.getD i 0, rfl, ?_, ?_, ?_⟩
    · intro h0
      have hc := hcell 0 (by omega)
      obtain ⟨b, off, spot⟩ := x
      have hspot : spot = none := by simpa [Addr.add] using World.cell?_spot hc
      subst hspot
      exact ⟨rfl, World.block_lt_of_cell? _ _ (by simpa [Addr.add] using hc)⟩
    · intro i hi
      have hc := hcell i (by omega)
      have hc0 := hcell 0 (by omega)
      obtain ⟨b, off, spot⟩ := x
      have hspot : spot = none := by simpa [Addr.add] using World.cell?_spot hc0
      subst hspot
      rw [WideShapes.add_plain] at hc
      exact hc
    · intro i hi
      have hmem : zs.getD i 0 ∈ zs := by rw [List.getD_eq_getElem?_getD, List.getElem?_eq_getElem (by omega)]; exact List.getElem_mem _
      have := bounds_u32 (hwz _ hmem)
      exact ⟨this.1, by show zs.getD i 0 < 4294967296; omega⟩

/-! ### The bounds on the lengths -/
set_option maxHeartbeats 400000 in
theorem bytes16_yes (a a' : Option Addr) (n c n' c' : Nat) (w : World) (h : n + n' ≤ 1048576) : Calls Try.prog 16 #[.slice a n c, .slice a' n' c'] w fun e w' => e = .returned (.bool true) ∧ w = w' := by
  go_enter Try.func16, Try.ntmps16
  go_wp2
  go_ret
  exact ⟨rfl, rfl⟩
set_option maxHeartbeats 400000 in
theorem bytes16_no (a a' : Option Addr) (n c n' c' : Nat) (w : World) (h : 1048576 < n + n') : Calls Try.prog 16 #[.slice a n c, .slice a' n' c'] w fun e w' => e = .returned (.bool false) ∧ w = w' := by
  go_enter Try.func16, Try.ntmps16
  go_wp2
  all_goals
    go_ret
    exact ⟨rfl, rfl⟩
end Go.Proofs.Qxb6003688a
