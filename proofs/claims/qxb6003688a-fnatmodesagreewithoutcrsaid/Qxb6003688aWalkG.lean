/-
  SEAT b6003688a: At under either rule as one step function; the law's walk.
-/
import Derived.Test.Qxb6003688aWalkE
import Derived.Test.Qxb6003688aWalkF
namespace Go.Proofs.Qxb6003688a
open Go.RowKit Math

def stepL (f : Nat → Int) (off line o : Nat) : Nat := if o < off then 0 + ct 10 (fun j => f (0 + j)) (o - 0) else line + ct 10 (fun j => f (off + j)) (o - off)
def stepC (f : Nat → Int) (off col o : Nat) : Nat := if o < off then newCol (fun j => f (0 + j)) (o - 0) 0 else newCol (fun j => f (off + j)) (o - off) col

theorem newCol_le (g : Nat → Int) (m col : Nat) : newCol g m col ≤ col + m := by
  unfold newCol
  split
  · have := rc_le g m 0; omega
  · have := rc_le g (m - ((lastOf 10 g m).toNat + 1)) ((lastOf 10 g m).toNat + 1); omega

theorem stepL_le (f : Nat → Int) (off line o : Nat) (h : line ≤ off) : stepL f off line o ≤ o := by
  unfold stepL
  split
  · have := ct_le 10 (fun j => f (0 + j)) (o - 0); omega
  · have := ct_le 10 (fun j => f (off + j)) (o - off); omega

theorem stepC_le (f : Nat → Int) (off col o : Nat) (h : col ≤ off) : stepC f off col o ≤ o := by
  unfold stepC
  split
  · have := newCol_le (fun j => f (0 + j)) (o - 0) 0; omega
  · have := newCol_le (fun j => f (off + j)) (o - off) col; omega

theorem at_step (brk : Int) (C : Nat) (p : Option Addr) (n c off line col o l1 c1 : Nat) (f : Nat → Int) (mx : Int) (w : World) (hb : brk = 0 ∨ brk = 1) (hn : n ≤ 65536) (hon : o ≤ n) (hofn : off ≤ n) (hl : line ≤ off) (hcl : col ≤ off) (hC : Ctr w C p n c brk off line col) (hC0 : 0 < C) (hmx : w.cell? ⟨0, 0, none⟩ = some (.int .i64 mx)) (hW : Win w p n c f) (hno : ∀ j, j < n → ¬ f j = 13) (h1 : Hid (stepL f off line o = l1)) (h2 : Hid (stepC f off col o = c1)) :
    Calls Try.prog 12 #[.pointer (some ⟨C, 0, none⟩), .int .i64 o] w fun e w' => e = .returned (.tuple #[.int .i64 ((l1 : Int) + 1), .int .i64 ((c1 : Int) + 1)]) ∧ Ctr w' C p n c brk o l1 c1 ∧ w.grownBy w' (some C) := by
  rw [← h1.out, ← h2.out]
  unfold stepL stepC
  by_cases ho : o < off
  · rw [if_pos ho, if_pos ho]
    rcases hb with rfl | rfl
    · exact at_lf_back C p n c off line col o f mx w hn ho hon hofn hl hcl hC hC0 hmx hW
    · exact at_cr_back C p n c off line col o f mx w hn ho hon hofn hl hcl hC hC0 hmx hW hno
  · rw [if_neg ho, if_neg ho]
    rcases hb with rfl | rfl
    · exact at_lf_on C p n c off line col o f mx w hn (by omega) hon hofn hl hcl hC hC0 hmx hW
    · exact at_cr_on C p n c off line col o f mx w hn (by omega) hon hofn hl hcl hC hC0 hmx hW hno

/-- A slice of uint32. -/
def Win32 (w : World) (p : Option Addr) (m : Nat) (g : Nat → Int) : Prop :=
  (∀ j, j < m → 0 ≤ g j ∧ g j < 4294967296) ∧ (0 < m → ∃ b, p = some ⟨b, 0, none⟩ ∧ b < w.heap.size ∧ ∀ j, j < m → w.cell? ⟨b, j, none⟩ = some (.int .u32 (g j)))

theorem Win32.later {w w' : World} {p : Option Addr} {m : Nat} {g : Nat → Int} (h : Win32 w p m g) (hb : Below w.heap.size w w') : Win32 w' p m g := by
  obtain ⟨h2, h3⟩ := h
  refine ⟨h2, fun h => ?_⟩
  obtain ⟨b, e, hlt, hc⟩ := h3 h
  exact ⟨b, e, Nat.lt_of_lt_of_le hlt hb.size, fun j hj => by rw [hb.cell (p := ⟨b, j, none⟩) hlt]; exact hc j hj⟩

theorem Win.grown {w w' : World} {p : Option Addr} {m c : Nat} {g : Nat → Int} (h : Win w p m c g) {C : Nat} {q : Option Addr} {n' c' : Nat} {brk : Int} {off line col : Nat} (hC : Ctr w C q n' c' brk off line col) (hg : w.grownBy w' (some C)) : Win w' p m c g := by
  obtain ⟨h1, h2, h3⟩ := h
  refine ⟨h1, h2, fun hm => ?_⟩
  obtain ⟨b, o, e, hlt, hc⟩ := h3 hm
  have hne : b ≠ C := by
    rintro rfl
    have h0 := hc 0 hm
    rw [cell_of_row w b (o + 0) _ _ _ hC] at h0
    match o, h0 with
    | 0, h0 => simp at h0
    | 1, h0 => simp at h0
    | 2, h0 => simp at h0
    | 3, h0 => simp at h0
    | 4, h0 => simp at h0
    | o + 5, h0 => simp at h0
  refine ⟨b, o, e, Nat.lt_of_lt_of_le hlt hg.size, fun i hi => ?_⟩
  rw [World.cell?_of_block (w := w) (hg.block b hlt (by simpa using hne))]
  exact hc i hi

theorem Win32.grown {w w' : World} {p : Option Addr} {m : Nat} {g : Nat → Int} (h : Win32 w p m g) {C : Nat} {q : Option Addr} {n' c' : Nat} {brk : Int} {off line col : Nat} (hC : Ctr w C q n' c' brk off line col) (hg : w.grownBy w' (some C)) : Win32 w' p m g := by
  obtain ⟨h2, h3⟩ := h
  refine ⟨h2, fun hm => ?_⟩
  obtain ⟨b, e, hlt, hc⟩ := h3 hm
  have hne : b ≠ C := by
    rintro rfl
    have h0 := hc 0 hm
    rw [cell_of_row w b 0 _ _ _ hC] at h0
    simp at h0
  refine ⟨b, e, Nat.lt_of_lt_of_le hlt hg.size, fun i hi => ?_⟩
  rw [World.cell?_of_block (w := w) (hg.block b hlt (by simpa using hne))]
  exact hc i hi

/-- What the law's second loop carries. -/
structure Inv (w wr : World) (C1 C2 : Nat) (p : Option Addr) (n c : Nat) (f : Nat → Int) (pq : Option Addr) (kn : Nat) (v : Nat → Int) (mx : Int) (o1 l1 c1 o2 l2 c2 : Nat) : Prop where
  ctr1 : Ctr wr C1 p n c 0 o1 l1 c1
  ctr2 : Ctr wr C2 p n c 1 o2 l2 c2
  src : Win wr p n c f
  picks : Win32 wr pq kn v
  glob : wr.cell? ⟨0, 0, none⟩ = some (.int .i64 mx)
  below : Below w.heap.size w wr
  pos : 0 < w.heap.size
  ge1 : w.heap.size ≤ C1
  ge2 : w.heap.size ≤ C2
  ne : C1 ≠ C2

section
variable {w wr : World} {C1 C2 : Nat} {p : Option Addr} {n c : Nat} {f : Nat → Int} {pq : Option Addr} {kn : Nat} {v : Nat → Int} {mx : Int} {o1 l1 c1 o2 l2 c2 : Nat}

theorem Inv.step1 (I : Inv w wr C1 C2 p n c f pq kn v mx o1 l1 c1 o2 l2 c2) {w' : World} {o l k : Nat} (hC : Ctr w' C1 p n c 0 o l k) (hg : wr.grownBy w' (some C1)) : Inv w w' C1 C2 p n c f pq kn v mx o l k o2 l2 c2 where
  ctr1 := hC
  ctr2 := (hg.block C2 I.ctr2.lt (by simpa using I.ne.symm)).trans I.ctr2
  src := I.src.grown I.ctr1 hg
  picks := I.picks.grown I.ctr1 hg
  glob := by
    rw [World.cell?_of_block (w := wr) (hg.block 0 (Nat.lt_of_lt_of_le I.pos I.below.size) (by have := I.ge1; have := I.pos; simp; omega))]
    exact I.glob
  below := I.below.grown hg I.below.size (fun k hk => by cases hk; exact I.ge1)
  pos := I.pos
  ge1 := I.ge1
  ge2 := I.ge2
  ne := I.ne

theorem Inv.step2 (I : Inv w wr C1 C2 p n c f pq kn v mx o1 l1 c1 o2 l2 c2) {w' : World} {o l k : Nat} (hC : Ctr w' C2 p n c 1 o l k) (hg : wr.grownBy w' (some C2)) : Inv w w' C1 C2 p n c f pq kn v mx o1 l1 c1 o l k where
  ctr1 := (hg.block C1 I.ctr1.lt (by simpa using I.ne)).trans I.ctr1
  ctr2 := hC
  src := I.src.grown I.ctr2 hg
  picks := I.picks.grown I.ctr2 hg
  glob := by
    rw [World.cell?_of_block (w := wr) (hg.block 0 (Nat.lt_of_lt_of_le I.pos I.below.size) (by have := I.ge2; have := I.pos; simp; omega))]
    exact I.glob
  below := I.below.grown hg I.below.size (fun k hk => by cases hk; exact I.ge2)
  pos := I.pos
  ge1 := I.ge1
  ge2 := I.ge2
  ne := I.ne
end

theorem src_view {a : Option Addr} {n c : Nat} {zs : List Int} {w : World} (hn : n ≤ 1048576) (w0 : IsRow .u8 w a n c zs) :
    ∃ f : Nat → Int, (0 < n → ∃ b o, a = some ⟨b, o, none⟩ ∧ ∀ j, j < n → w.cell? ⟨b, o + j, none⟩ = some (.int .u8 (f j))) ∧ ∀ W : World, Below w.heap.size w W → Calls Try.prog 8 #[.slice a n c] W fun e w' => ∃ p c', e = .returned (.slice p n c') ∧ Win w' p n c' f ∧ Below W.heap.size W w' := by
  rcases view_bytes w0 with ⟨rfl, rfl, rfl⟩ | ⟨x, b, o, f, rfl, hx, hc, hw⟩
  · refine ⟨fun _ => 0, fun h => absurd h (Nat.lt_irrefl _), fun W hW => ?_⟩
    refine (clone_nil W).mono ?_
    rintro e w' ⟨rfl, rfl⟩
    exact ⟨none, 0, rfl, ⟨Nat.le_refl _, fun j hj => absurd hj (Nat.not_lt_zero _), fun h => absurd h (Nat.lt_irrefl _)⟩, Below.refl _ _⟩
  · refine ⟨f, fun h => ⟨b, o, by rw [(hx h).1], hc⟩, fun W hW => ?_⟩
    refine (clone_some x b o n c f W hn (fun h => ⟨(hx h).1, Nat.lt_of_lt_of_le (hx h).2 hW.size⟩) (fun i hi => ?_)).mono ?_
    · rw [hW.cell (p := ⟨b, o + i, none⟩) (hx (by omega)).2]
      exact hc i hi
    · rintro e w' ⟨rfl, hC⟩
      exact ⟨_, _, rfl, ⟨Nat.le_refl _, hw, fun _ => ⟨_, 0, rfl, by have := hC.size; omega, fun j hj => by rw [Nat.zero_add, hC.row.cell hj, if_pos hj]⟩⟩, hC.below⟩

theorem picks_view {a : Option Addr} {n c : Nat} {zs : List Int} {w : World} (hn : n ≤ 1048576) (w0 : IsRow .u32 w a n c zs) :
    ∃ f : Nat → Int, ∀ W : World, Below w.heap.size w W → Calls Try.prog 14 #[.slice a n c] W fun e w' => ∃ p c', e = .returned (.slice p n c') ∧ Win32 w' p n f ∧ Below W.heap.size W w' := by
  rcases view_u32 w0 with ⟨rfl, rfl, rfl⟩ | ⟨x, b, o, f, rfl, hx, hc, hw⟩
  · refine ⟨fun _ => 0, fun W hW => ?_⟩
    refine (clone32_nil W).mono ?_
    rintro e w' ⟨rfl, rfl⟩
    exact ⟨none, 0, rfl, ⟨fun j hj => absurd hj (Nat.not_lt_zero _), fun h => absurd h (Nat.lt_irrefl _)⟩, Below.refl _ _⟩
  · refine ⟨f, fun W hW => ?_⟩
    refine (clone32_some x b o n c f W hn (fun h => ⟨(hx h).1, Nat.lt_of_lt_of_le (hx h).2 hW.size⟩) (fun i hi => ?_)).mono ?_
    · rw [hW.cell (p := ⟨b, o + i, none⟩) (hx (by omega)).2]
      exact hc i hi
    · rintro e w' ⟨rfl, hC⟩
      exact ⟨_, _, rfl, ⟨hw, fun _ => ⟨_, rfl, by have := hC.size; omega, fun j hj => by rw [hC.row.cell hj, if_pos hj]⟩⟩, hC.below⟩
end Go.Proofs.Qxb6003688a
