/-
  SEAT b6602523a: the parser in memory; ZZNewParser; the readers.
-/
import Derived.Test.Qxb6602523aRows
import Derived.WalkKit
import Derived.WalkSpells
import Derived.Deep.LoopGhost
import Derived.Deep.OwnRows
import Derived.Deep.Light
import Derived.OpenShut
import Derived.Deep.QuietTactic
import Derived.BigQuiet
namespace Go.Proofs.Qxb6602523a
open Go.RowKit

/-- A node: its kind and its text. -/
abbrev Node := Nat × ByteArray

def pcells (fl : Bool) (F : Nat) : Array Value := #[.string ⟨#[]⟩, .string ⟨#[]⟩, .int .i64 0, .int .i64 0, .int .i64 0, .string ⟨#[]⟩, .string ⟨#[]⟩, .bool fl, .slice (some ⟨F, 0, none⟩) 1 1, .slice none 0 0]
def fcells (v : Value) : Array Value := #[.int .i64 0, .string ⟨#[]⟩, .slice none 0 0, .int .i64 0, .slice none 0 0, .bool false, .string ⟨#[]⟩, v]
def ncell (k : Nat) (t : ByteArray) : List Value := [.int .i64 k, .string t, .slice none 0 0, .int .i64 0, .slice none 0 0, .bool false, .string ⟨#[]⟩]
def ncells : List Node → List Value
  | [] => []
  | d :: N => ncell d.1 d.2 ++ ncells N

theorem ncells_length (N : List Node) : (ncells N).length = N.length * 7 := by
  induction N with
  | nil => rfl
  | cons d N ih => simp only [ncells, ncell, List.length_append, List.length_cons, List.length_nil, ih]; omega
theorem ncells_append (N M : List Node) : ncells (N ++ M) = ncells N ++ ncells M := by
  induction N with
  | nil => rfl
  | cons d N ih => simp only [ncells, List.cons_append, ih, List.append_assoc]

/-- THE PARSER IN MEMORY: block P its fields, block F its one frame, v the slice of the frame's nodes. -/
structure Par (B : Nat) (w : World) (P F : Nat) (v : Value) (N : List Node) (fl : Bool) : Prop where
  pb : w.heap[P]? = some (.cells (pcells fl F) 42 (0, 0))
  fb : w.heap[F]? = some (.cells (fcells v) 50 (0, 0))
  own : w.ownsRow B 48 7 v N.length (ncells N)
  bp : B ≤ P
  bf : B ≤ F

set_option maxHeartbeats 400000 in
theorem new_any (fl : Bool) (w : World) :
    Calls Try.prog 7 #[.bool fl, .int .i64 1] w fun e w' => e = .returned (.pointer (some ⟨w.heap.size + 1, 0, none⟩)) ∧ Par w.heap.size w' (w.heap.size + 1) w.heap.size (.slice none 0 0) [] fl ∧ Below w.heap.size w w' := by
  have hmk : ∀ w, (Instr.makeSlice 39 (.int .i64 1) (.int .i64 1)).run Try.prog w = .ok (.slice (some ⟨w.heap.size, 0, none⟩) 1 1) (w.alloc (.cells (fcells (.slice none 0 0)) 50)) := fun _ => by kernel_rfl
  go_enter Try.func7, Try.ntmps7
  go_wp2
  go_ret
  exact ⟨rfl, ⟨heap_alloc2_new w _ _, heap_alloc2_old w _ _, World.ownsRow_nil _ _ _ _, Nat.le_succ _, Nat.le_refl _⟩, ((Below.refl _ _).alloc (Nat.le_refl _) _).alloc (by simp) _⟩
end Go.Proofs.Qxb6602523a
