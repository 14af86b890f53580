/-
  SEAT b6003688a: the Counter: New, At.
-/
import Derived.Test.Qxb6003688aWalkC
import Derived.Deep.QuietTactic
import Derived.BigQuiet
import Derived.Deep.RegionWith
import Derived.Lib.SlBytesConst
namespace Go.Proofs.Qxb6003688a
open Go.RowKit Math

/-- THE COUNTER IN MEMORY: block C holds its five fields. -/
def Ctr (w : World) (C : Nat) (p : Option Addr) (n c : Nat) (brk : Int) (off line col : Nat) : Prop :=
  w.heap[C]? = some (.cells #[.slice p n c, .int .i64 brk, .int .i64 off, .int .i64 line, .int .i64 col] 49 (0, 0))

set_option maxHeartbeats 400000 in
theorem new_any (p : Option Addr) (n c : Nat) (brk : Int) (w : World) :
    Calls Try.prog 10 #[.slice p n c, .int .i64 brk] w fun e w' => e = .returned (.pointer (some ⟨w.heap.size, 0, none⟩)) ∧ Below w.heap.size w w' ∧ w'.heap.size = w.heap.size + 1 ∧ Ctr w' w.heap.size p n c brk 0 0 0 := by
  go_enter Try.func10, Try.ntmps10
  go_wp2
  go_ret
  refine ⟨rfl, (Below.refl _ _).alloc (Nat.le_refl _) _, by simp, ?_⟩
  exact heap_alloc_new _ _

theorem Ctr.cell {w : World} {C : Nat} {p : Option Addr} {n c : Nat} {brk : Int} {off line col : Nat} (h : Ctr w C p n c brk off line col) :
    w.cell? ⟨C, 0, none⟩ = some (.slice p n c) ∧ w.cell? ⟨C, 1, none⟩ = some (.int .i64 brk) ∧ w.cell? ⟨C, 2, none⟩ = some (.int .i64 off) ∧ w.cell? ⟨C, 3, none⟩ = some (.int .i64 line) ∧ w.cell? ⟨C, 4, none⟩ = some (.int .i64 col) :=
  ⟨cell_of_row w C 0 _ _ _ h, cell_of_row w C 1 _ _ _ h, cell_of_row w C 2 _ _ _ h, cell_of_row w C 3 _ _ _ h, cell_of_row w C 4 _ _ _ h⟩

theorem Ctr.frozen {w : World} {C : Nat} {p : Option Addr} {n c : Nat} {brk : Int} {off line col : Nat} (h : Ctr w C p n c brk off line col) (j : Nat) : w.frozen? ⟨C, j, none⟩ = false := frozen_of_row w C j _ _ h

theorem Ctr.lt {w : World} {C : Nat} {p : Option Addr} {n c : Nat} {brk : Int} {off line col : Nat} (h : Ctr w C p n c brk off line col) : C < w.heap.size := block_lt_of_cell h.cell.1

/-- A window of bytes does not lie in the counter's own block. -/
theorem Win.setCell {w : World} {p : Option Addr} {m c : Nat} {g : Nat → Int} (h : Win w p m c g) {C : Nat} (q : Option Addr) (n' c' : Nat) (brk : Int) (off line col : Nat) (hC : Ctr w C q n' c' brk off line col) (j : Nat) (v : Value) : Win (w.setCell ⟨C, j, none⟩ v) p m c g := by
  obtain ⟨h1, h2, h3⟩ := h
  refine ⟨h1, h2, fun hm => ?_⟩
  obtain ⟨b, o, e, hlt, hc⟩ := h3 hm
  have hne : b ≠ C := by
    rintro rfl
    have h0 := hc 0 hm
    rw [cell_of_row w b (o + 0) _ _ _ hC] at h0
    match o, h0 with
    | 0, h0 => simp at h0
    | 1, h0 => simp at h0
    | 2, h0 => simp at h0
    | 3, h0 => simp at h0
    | 4, h0 => simp at h0
    | o + 5, h0 => simp at h0
  refine ⟨b, o, e, by simpa using hlt, fun i hi => ?_⟩
  rw [World.cell?_setCell_other _ _ _ _ (fun e => hne (by have := congrArg Addr.block e; exact this.symm))]
  exact hc i hi


/-- What the walk of At carries: the counter, the window of bytes that is passed, all else as it was, the library's variable. -/
structure Sit (w0 w : World) (C : Nat) (p : Option Addr) (n c : Nat) (brk : Int) (off line col : Nat) (q : Option Addr) (m d : Nat) (g : Nat → Int) (mx : Int) : Prop where
  ctr : Ctr w C p n c brk off line col
  win : Win w q m d g
  grown : w0.grownBy w (some C)
  glob : w.cell? ⟨0, 0, none⟩ = some (.int .i64 mx)
  c0 : 0 < C

section
variable {w0 w : World} {C : Nat} {p : Option Addr} {n c : Nat} {brk : Int} {off line col : Nat} {q : Option Addr} {m d : Nat} {g : Nat → Int} {mx : Int}

theorem Sit.below (S : Sit w0 w C p n c brk off line col q m d g mx) {w' : World} (h : Below w.heap.size w w') : Sit w0 w' C p n c brk off line col q m d g mx where
  ctr := (h.block C S.ctr.lt).trans S.ctr
  win := S.win.later h
  grown := ⟨h.os.trans S.grown.os, h.tape.trans S.grown.tape, h.output.trans S.grown.output, Nat.le_trans S.grown.size h.size, fun k hk hne => (h.block k (Nat.lt_of_lt_of_le hk S.grown.size)).trans (S.grown.block k hk hne)⟩
  glob := by rw [h.cell (p := ⟨0, 0, none⟩) (Nat.lt_trans S.c0 S.ctr.lt)]; exact S.glob
  c0 := S.c0

theorem Sit.alloc (S : Sit w0 w C p n c brk off line col q m d g mx) (o : Obj) : Sit w0 (w.alloc o) C p n c brk off line col q m d g mx := S.below ((Below.refl _ _).alloc (Nat.le_refl _) _)
theorem Sit.drewN (S : Sit w0 w C p n c brk off line col q m d g mx) (k : Nat) : Sit w0 (w.drewN k) C p n c brk off line col q m d g mx := S.below ⟨rfl, rfl, rfl, Nat.le_refl _, fun _ _ => rfl⟩
theorem Sit.drew (S : Sit w0 w C p n c brk off line col q m d g mx) : Sit w0 w.drew C p n c brk off line col q m d g mx := S.below (Below.refl _ _).drew

theorem Sit.stored (S : Sit w0 w C p n c brk off line col q m d g mx) (j : Nat) (v : Value) (off' line' col' : Nat)
    (he : (#[Value.slice p n c, .int .i64 brk, .int .i64 off, .int .i64 line, .int .i64 col] : Array Value).setIfInBounds j v = #[Value.slice p n c, .int .i64 brk, .int .i64 off', .int .i64 line', .int .i64 col']) :
    Sit w0 (w.setCell ⟨C, j, none⟩ v) C p n c brk off' line' col' q m d g mx where
  ctr := by unfold Ctr; rw [heap_setCell_same w C j _ _ v S.ctr, he]
  win := S.win.setCell _ _ _ _ _ _ _ S.ctr j v
  grown := ⟨S.grown.os, S.grown.tape, S.grown.output, by have := S.grown.size; simpa using this, fun k hk hne => by
    rw [heap_setCell_other w ⟨C, j, none⟩ k v (fun e => hne (by rw [e]))]
    exact S.grown.block k hk hne⟩
  glob := by
    rw [World.cell?_setCell_other _ _ _ _ (fun e => by have := congrArg Addr.block e; have h0 := S.c0; simp at this; omega)]
    exact S.glob
  c0 := S.c0

theorem Sit.set2 (S : Sit w0 w C p n c brk off line col q m d g mx) (x : Nat) : Sit w0 (w.setCell ⟨C, 2, none⟩ (.int .i64 x)) C p n c brk x line col q m d g mx := S.stored 2 _ _ _ _ rfl
theorem Sit.set3 (S : Sit w0 w C p n c brk off line col q m d g mx) (x : Nat) : Sit w0 (w.setCell ⟨C, 3, none⟩ (.int .i64 x)) C p n c brk off x col q m d g mx := S.stored 3 _ _ _ _ rfl
theorem Sit.set4 (S : Sit w0 w C p n c brk off line col q m d g mx) (x : Nat) : Sit w0 (w.setCell ⟨C, 4, none⟩ (.int .i64 x)) C p n c brk off line x q m d g mx := S.stored 4 _ _ _ _ rfl
theorem Sit.window (S : Sit w0 w C p n c brk off line col q m d g mx) {q' : Option Addr} {m' d' : Nat} {g' : Nat → Int} (h : Win w q' m' d' g') : Sit w0 w C p n c brk off line col q' m' d' g' mx := ⟨S.ctr, h, S.grown, S.glob, S.c0⟩
end

/-- The column behind the passed bytes. -/
def newCol (g : Nat → Int) (m col : Nat) : Nat := if lastOf 10 g m < 0 then col + rc g m 0 else rc g (m - ((lastOf 10 g m).toNat + 1)) ((lastOf 10 g m).toNat + 1)

theorem newCol_none (g : Nat → Int) (m col : Nat) (h : lastOf 10 g m = -1) : newCol g m col = col + rc g m 0 := by unfold newCol; rw [if_pos (by rw [h]; decide)]
theorem newCol_some (g : Nat → Int) (m col i : Nat) (h : lastOf 10 g m = i) : newCol g m col = rc g (m - (i + 1)) (i + 1) := by unfold newCol; rw [if_neg (by rw [h]; omega), h, Int.toNat_natCast]

theorem runes_win' (p : Option Addr) (m c r : Nat) (g : Nat → Int) (w : World) (hm : m ≤ 1048577) (hr : rc g m 0 = r) (h : Win w p m c g) :
    Calls Try.prog 25 #[.slice p m c] w fun e w' => e = .returned (.int .i64 r) ∧ Below w.heap.size w w' := by
  rw [← hr]; exact runes_win p m c g w hm h

theorem count_win' (v : Int) (hv : 0 ≤ v ∧ v < 256) (p : Option Addr) (m c b2 d E : Nat) (g : Nat → Int) (W : World) (h : Win W p m c g) (hE : ct v g m = E) (hc2 : W.cell? ⟨b2, 0, none⟩ = some (.int .u8 v)) :
    Calls Try.prog 23 #[.slice p m c, .slice (some ⟨b2, 0, none⟩) 1 d] W fun e w' => e = .returned (.int .i64 E) ∧ W = w' := by
  rw [← hE]; exact count_win v hv p m c b2 d g W h hc2

theorem new_cell (w : World) (v : Value) (t : TypeId) : (w.alloc (.cells #[v] t)).cell? ⟨w.heap.size, 0, none⟩ = some v := by rw [World.cell?_alloc_at _ _ _ _ rfl]; rfl

theorem wrap_sum (a b : Nat) (h : a + b ≤ 1048577) : IntKind.i64.wrap ((a : Int) + IntKind.i64.wrap (b : Int)) = ((a + b : Nat) : Int) := by
  rw [IntKind.wrap_i64, IntKind.wrap_i64]
  omega
theorem wrap_sum0 (b : Nat) (h : b ≤ 1048577) : IntKind.i64.wrap (IntKind.i64.wrap (b : Int)) = ((b : Nat) : Int) := by
  rw [IntKind.wrap_i64, IntKind.wrap_i64]
  omega
end Go.Proofs.Qxb6003688a
