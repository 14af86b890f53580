/-
  SEAT b6003688a: the library's functions on the road, each at a window of bytes: bytes.Count, bytes.LastIndexByte, bytes.Equal, bytes.HasSuffix, bytes.Index (at a text without the first byte of the separator), utf8.RuneCount.
-/
import Derived.Test.Qxb6003688aWalkA
import Derived.Test.Qxb6003688aMath
import Derived.Shelf.Bytes.SlCountOne
import Derived.Shelf.Bytes.SlIndexAt
import Derived.Lib.RuneCountTail
import Derived.Lib.SlBytesIndexEntry
import Derived.Laws.BytesArg
namespace Go.Proofs.Qxb6003688a
open Go.RowKit Math

/-- A slice of m bytes, 'g j' the byte at place j: where there is a byte: at an address of the world; where there is none: whatever the address, nil too. -/
def Win (w : World) (p : Option Addr) (m c : Nat) (g : Nat → Int) : Prop :=
  m ≤ c ∧ (∀ j, j < m → 0 ≤ g j ∧ g j < 256) ∧ (0 < m → ∃ b o, p = some ⟨b, o, none⟩ ∧ b < w.heap.size ∧ ∀ j, j < m → w.cell? ⟨b, o + j, none⟩ = some (.int .u8 (g j)))

theorem Win.later {w w' : World} {p : Option Addr} {m c : Nat} {g : Nat → Int} (h : Win w p m c g) (hb : Below w.heap.size w w') : Win w' p m c g := by
  obtain ⟨h1, h2, h3⟩ := h
  refine ⟨h1, h2, fun h => ?_⟩
  obtain ⟨b, o, e, hlt, hc⟩ := h3 h
  exact ⟨b, o, e, Nat.lt_of_lt_of_le hlt hb.size, fun j hj => by rw [hb.cell (p := ⟨b, o + j, none⟩) hlt]; exact hc j hj⟩

theorem nums_getD (g : Nat → Int) (m j : Nat) (h : j < m) : ((List.range m).map g).getD j 0 = g j := by
  rw [List.getD_eq_getElem?_getD, List.getElem?_map, List.getElem?_range h]; rfl

/-- Slicing a window. -/
theorem slice_win {w : World} {p : Option Addr} {n c : Nat} {f : Nat → Int} (h : Win w p n c f) (lo hi : Nat) (h1 : lo ≤ hi) (h2 : hi ≤ n) :
    ∃ p', (∀ W, (Instr.slice 22 (.slice p n c) (some (.int .i64 lo)) (some (.int .i64 hi)) none).run Try.prog W = .ok (.slice p' (hi - lo) (c - lo)) W) ∧ Win w p' (hi - lo) (c - lo) (fun j => f (lo + j)) := by
  have hz : ∀ W, (Go.sizeOf (Try.prog.elem 22)).run Try.prog W = .ok 1 W := fun W => by kernel_rfl
  obtain ⟨g1, g2, g3⟩ := h
  refine ⟨if c = lo then p else p.map (·.add (lo * 1)), fun W => ?_, by omega, fun j hj => g2 _ (by omega), fun hm => ?_⟩
  · rw [run_slice_lh W 22 p n c (by kernel_rfl) .i64 .i64 lo hi (by omega) (by omega) (by omega), hz]
    simp only [Result.andThen, sliced, Int.toNat_natCast]
  · obtain ⟨b, o, rfl, hlt, hc⟩ := g3 (by omega)
    refine ⟨b, o + lo, ?_, hlt, fun j hj => by rw [Nat.add_assoc]; exact hc _ (by omega)⟩
    rw [if_neg (by omega), Option.map_some, WideShapes.add_plain, Nat.mul_one]

theorem slice_from {w : World} {p : Option Addr} {n c : Nat} {f : Nat → Int} (h : Win w p n c f) (lo : Nat) (h1 : lo ≤ n) :
    ∃ p', (∀ W, (Instr.slice 22 (.slice p n c) (some (.int .i64 lo)) none none).run Try.prog W = .ok (.slice p' (n - lo) (c - lo)) W) ∧ Win w p' (n - lo) (c - lo) (fun j => f (lo + j)) := by
  have hz : ∀ W, (Go.sizeOf (Try.prog.elem 22)).run Try.prog W = .ok 1 W := fun W => by kernel_rfl
  obtain ⟨g1, g2, g3⟩ := h
  refine ⟨if c = lo then p else p.map (·.add (lo * 1)), fun W => ?_, by omega, fun j hj => g2 _ (by omega), fun hm => ?_⟩
  · rw [run_slice_l W 22 p n c (by kernel_rfl) .i64 lo (by omega) (by omega), hz]
    simp only [Result.andThen, sliced, Int.toNat_natCast]
  · obtain ⟨b, o, rfl, hlt, hc⟩ := g3 (by omega)
    refine ⟨b, o + lo, ?_, hlt, fun j hj => by rw [Nat.add_assoc]; exact hc _ (by omega)⟩
    rw [if_neg (by omega), Option.map_some, WideShapes.add_plain, Nat.mul_one]

/-! ### bytes.Count with a separator of one byte -/
theorem countByte_eq (v : Int) (hv : 0 ≤ v ∧ v < 256) (xs : List Int) (hw : ∀ x ∈ xs, 0 ≤ x ∧ x < 256) : Lib.countByte (Lib.bytesOf xs) v.toNat.toUInt8 = (xs.filter (fun x => decide (x = v))).length := by
  unfold Lib.countByte Lib.bytesOf
  induction xs with
  | nil => rfl
  | cons x xs ih =>
    have hx := hw x (by simp)
    rw [List.map_cons, List.count_cons, ih (fun y hy => hw y (by simp [hy])), List.filter_cons]
    by_cases e : x = v
    · subst e; simp
    · have hne : (UInt8.ofNat x.toNat == v.toNat.toUInt8) = false := by
        rw [beq_eq_false_iff_ne]
        intro h
        have := congrArg UInt8.toNat h
        simp at this
        omega
      rw [if_neg (by rw [hne]; exact Bool.false_ne_true), if_neg (by simp [e])]
      rfl

/-- The model's entry at a window. -/
theorem run_countWin (v : Int) (hv : 0 ≤ v ∧ v < 256) (p : Option Addr) (m c : Nat) (g : Nat → Int) (W : World) (h : Win W p m c g) :
    (Extern.BytealgCount.count #[.slice p m c, .int .u8 v]).run Try.prog W = .ok (.int .i64 (ct v g m)) W := by
  obtain ⟨h1, h2, h3⟩ := h
  have hb : ∀ x ∈ (List.range m).map g, 0 ≤ x ∧ x < 256 := fun x hx => by
    obtain ⟨j, hj, rfl⟩ := List.mem_map.1 hx
    exact h2 _ (List.mem_range.1 hj)
  rcases Nat.eq_zero_or_pos m with rfl | hm
  · cases p with
    | none => exact Lib.run_countNil W 0 c v
    | some a => exact Lib.run_countAt W a 0 c [] rfl (fun i hi => absurd hi (Nat.not_lt_zero _)) v
  · obtain ⟨b, o, rfl, hlt, hc⟩ := h3 hm
    rw [Lib.run_countAt W ⟨b, o, none⟩ m c ((List.range m).map g) (by simp) (fun i hi => by rw [WideShapes.add_plain, nums_getD g m i hi]; exact hc i hi) v, countByte_eq v hv _ hb, ct_filter]

set_option maxHeartbeats 400000 in
theorem count_win (v : Int) (hv : 0 ≤ v ∧ v < 256) (p : Option Addr) (m c b2 d : Nat) (g : Nat → Int) (W : World) (h : Win W p m c g) (hc2 : W.cell? ⟨b2, 0, none⟩ = some (.int .u8 v)) :
    Calls Try.prog 23 #[.slice p m c, .slice (some ⟨b2, 0, none⟩) 1 d] W fun e w' => e = .returned (.int .i64 (ct v g m)) ∧ W = w' := by
  have hr := run_countWin v hv p m c g W h
  clear h hv
  go_enter Try.func23, Try.ntmps23
  go_wp2
  rw [run_callFunc_extern Try.func30 (by kernel_rfl) (by kernel_rfl) (by kernel_rfl) (e := Extern.BytealgCount.count) (by kernel_rfl), hr]
  simp only [Result.andThen]
  rw [Oper.upon_value]
  go_wp2
  go_ret
  exact ⟨rfl, rfl⟩

/-! ### bytes.LastIndexByte -/
theorem ret_int {k : IntKind} {a b : Int} (h : a = b) : Ending.returned (.int k a) = .returned (.int k b) := by rw [h]

set_option maxHeartbeats 400000 in
theorem last32 (v : Int) (p : Option Addr) (m c : Nat) (g : Nat → Int) (w : World) (hm : m ≤ 1048577) (h : Win w p m c g) :
    Calls Try.prog 32 #[.slice p m c, .int .u8 v] w fun e w' => e = .returned (.int .i64 (lastOf v g m)) ∧ w = w' := by
  obtain ⟨h1, h2, h3⟩ := h
  have H3 : Hid (0 < m → ∃ b o, p = some ⟨b, o, none⟩ ∧ b < w.heap.size ∧ ∀ j, j < m → w.cell? ⟨b, o + j, none⟩ = some (.int .u8 (g j))) := h3
  clear h2 h3
  go_enter Try.func32, Try.ntmps32
  go_wp2
  go_loopg [5] m (fun gk i wr => ∃ k : Nat, k ≤ m ∧ k = gk ∧ i = .int .i64 ((k : Int) - 1) ∧ Hid (lastOf v g m = lastOf v g k) ∧ w = wr)
  case atStart => exact ⟨m, Nat.le_refl _, rfl, rfl, rfl, rfl⟩
  case round =>
    obtain ⟨k, hk, rfl, rfl, HL, rfl⟩ := hrel
    match k, hk, HL with
    | 0, hk, HL =>
      go_wp2
      go_ret
      exact ⟨ret_int HL.out.symm, rfl⟩
    | k + 1, hk, HL =>
      obtain ⟨b, o, rfl, hlt, hc⟩ := H3.out (by omega)
      have hz : (k : Int) < (m : Int) := by omega
      have hcell := hc k (by omega)
      have ek : (((k + 1 : Nat) : Int) - 1) = (k : Int) := by omega
      rw [ek]
      clear ek hc H3 hlt
      by_cases h10 : g k = v
      · have ht : (g k == v) = true := beq_iff_eq.2 h10
        have HR : Hid (lastOf v g m = k) := HL.out.trans (lastOf_hit v g k h10)
        clear HL h10
        go_wp2
        go_ret
        exact ⟨ret_int HR.out.symm, rfl⟩
      · have ht : (g k == v) = false := beq_eq_false_iff_ne.2 h10
        have HR : Hid (lastOf v g m = lastOf v g k) := HL.out.trans (lastOf_no v g k h10)
        clear HL h10
        go_wp2
        go_roundg k
        case measure => go_light; omega
        case rel => exact ⟨k, by omega, rfl, rfl, HR, rfl⟩

set_option maxHeartbeats 400000 in
theorem last_win (v : Int) (p : Option Addr) (m c : Nat) (g : Nat → Int) (x : Int) (w : World) (hm : m ≤ 1048577) (h : Win w p m c g) (hx : Hid (lastOf v g m = x)) :
    Calls Try.prog 24 #[.slice p m c, .int .u8 v] w fun e w' => e = .returned (.int .i64 x) ∧ w = w' := by
  have hl := last32 v p m c g w hm h
  rw [hx.out] at hl
  clear h
  go_enter Try.func24, Try.ntmps24
  go_wp2_with (go_at_call 32; refine hl.mono ?_; rintro e w' ⟨rfl, rfl⟩)
  go_ret
  exact ⟨rfl, rfl⟩

/-! ### bytes.Equal of two texts whose first bytes differ -/
set_option maxHeartbeats 400000 in
theorem equal_no (p1 p2 : Option Addr) (m1 c1 m2 c2 : Nat) (g1 g2 : Nat → Int) (w : World) (hm1 : 0 < m1) (hm2 : 0 < m2) (h1 : Win w p1 m1 c1 g1) (h2 : Win w p2 m2 c2 g2) (hne : g1 0 ≠ g2 0) :
    Calls Try.prog 29 #[.slice p1 m1 c1, .slice p2 m2 c2] w fun e w' => e = .returned (.bool false) ∧ w = w' := by
  obtain ⟨_, r1, h1⟩ := h1
  obtain ⟨_, r2, h2⟩ := h2
  obtain ⟨b1, o1, rfl, _, k1⟩ := h1 hm1
  obtain ⟨b2, o2, rfl, _, k2⟩ := h2 hm2
  have v1 := run_convert_bytes_arg (P := Try.prog) w 22 5 Try.underlying22 Try.underlying5 b1 o1 m1 c1 ((List.range m1).map g1) (by simp) (fun i hi => by rw [nums_getD g1 m1 i hi]; exact k1 i hi) 9 Try.underlying9
  have v2 := run_convert_bytes_arg (P := Try.prog) w 22 5 Try.underlying22 Try.underlying5 b2 o2 m2 c2 ((List.range m2).map g2) (by simp) (fun i hi => by rw [nums_getD g2 m2 i hi]; exact k2 i hi) 9 Try.underlying9
  have hd : ((strOfNums ((List.range m1).map g1)).toList == (strOfNums ((List.range m2).map g2)).toList) = false := by
    rw [Lib.strOfNums_toList, Lib.strOfNums_toList, beq_eq_false_iff_ne]
    intro h
    unfold Lib.bytesOf at h
    have h0 := congrArg (fun l => l[0]?) h
    simp only [List.getElem?_map, List.getElem?_range hm1, List.getElem?_range hm2, Option.map_some, Option.some.injEq] at h0
    have h0 := congrArg UInt8.toNat h0
    have a1 := r1 0 hm1
    have a2 := r2 0 hm2
    simp at h0
    clear h1 h2 v1 v2 k1 k2
    omega
  generalize strOfNums ((List.range m1).map g1) = s1 at *
  generalize strOfNums ((List.range m2).map g2) = s2 at *
  clear k1 k2 h1 h2 r1 r2 hne
  go_enter Try.func29, Try.ntmps29
  go_wp2
  go_ret
  exact ⟨rfl, rfl⟩

/-! ### bytes.HasSuffix with a suffix of one byte that the text does not hold -/
set_option maxHeartbeats 400000 in
theorem suffix_no (p : Option Addr) (m c b2 : Nat) (g : Nat → Int) (w : World) (hm : m ≤ 1048577) (h : Win w p m c g) (hb2 : b2 < w.heap.size) (hc2 : w.cell? ⟨b2, 0, none⟩ = some (.int .u8 13)) (hne : ∀ j, j < m → ¬ g j = 13) :
    Calls Try.prog 22 #[.slice p m c, .slice (some ⟨b2, 0, none⟩) 1 1] w fun e w' => e = .returned (.bool false) ∧ w = w' := by
  rcases Nat.eq_zero_or_pos m with rfl | hpos
  · have hd : decide ((1 : Int) ≤ ((0 : Nat) : Int)) = false := by decide
    go_enter Try.func22, Try.ntmps22
    go_wp2
    go_ret
    exact ⟨rfl, rfl⟩
  · obtain ⟨p', hsl, hw'⟩ := slice_from h (m - 1) (by omega)
    have hs2 : Win w (some ⟨b2, 0, none⟩) 1 1 (fun _ => 13) := ⟨Nat.le_refl _, fun _ _ => ⟨by show (0 : Int) ≤ 13; decide, by show (13 : Int) < 256; decide⟩, fun _ => ⟨b2, 0, rfl, hb2, fun j hj => by
      obtain rfl : j = 0 := by omega
      exact hc2⟩⟩
    have he := equal_no p' (some ⟨b2, 0, none⟩) (m - (m - 1)) (c - (m - 1)) 1 1 _ (fun _ => 13) w (by omega) (by omega) hw' hs2 (hne _ (by omega))
    rw [show ((m - 1 : Nat) : Int) = (m : Int) - 1 from by omega] at hsl
    have hd : (1 : Int) ≤ (m : Int) := by omega
    clear hs2 hw' h hne
    go_enter Try.func22, Try.ntmps22
    go_wp2_with (go_at_call 29; refine he.mono ?_; rintro e w' ⟨rfl, rfl⟩)
    go_ret
    exact ⟨rfl, rfl⟩

/-! ### bytes.IndexByte of a byte that the text does not hold -/
theorem indexByte_none (v : Int) (hv : 0 ≤ v ∧ v < 256) (xs : List Int) (hw : ∀ x ∈ xs, 0 ≤ x ∧ x < 256 ∧ ¬ x = v) : Lib.indexByte (Lib.bytesOf xs) v.toNat.toUInt8 = -1 := by
  unfold Lib.bytesOf
  induction xs with
  | nil => rfl
  | cons x xs ih =>
    have hx := hw x (by simp)
    rw [List.map_cons, Lib.indexByte, ih (fun y hy => hw y (by simp [hy]))]
    have hne : (UInt8.ofNat x.toNat == v.toNat.toUInt8) = false := by
      rw [beq_eq_false_iff_ne]
      intro h
      have := congrArg UInt8.toNat h
      simp at this
      omega
    rw [hne]
    rfl

set_option maxHeartbeats 400000 in
theorem indexByte_win (v : Int) (hv : 0 ≤ v ∧ v < 256) (p : Option Addr) (m c : Nat) (g : Nat → Int) (w : World) (h : Win w p m c g) (hne : ∀ j, j < m → ¬ g j = v) :
    Calls Try.prog 35 #[.slice p m c, .int .u8 v] w fun e w' => e = .returned (.int .i64 (-1)) ∧ w = w' := by
  obtain ⟨h1, h2, h3⟩ := h
  have hr : (Extern.BytealgIndexByte.indexByte #[.slice p m c, .int .u8 v]).run Try.prog w = .ok (.int .i64 (-1)) w := by
    rcases Nat.eq_zero_or_pos m with rfl | hm
    · cases p with
      | none => exact Lib.run_indexByteNil w 0 c v
      | some a => exact Lib.run_indexByteAt w a 0 c [] rfl (fun i hi => absurd hi (Nat.not_lt_zero _)) v
    · obtain ⟨b, o, rfl, hlt, hc⟩ := h3 hm
      rw [Lib.run_indexByteAt w ⟨b, o, none⟩ m c ((List.range m).map g) (by simp) (fun i hi => by rw [WideShapes.add_plain, nums_getD g m i hi]; exact hc i hi) v, indexByte_none v hv]
      intro x hx
      obtain ⟨j, hj, rfl⟩ := List.mem_map.1 hx
      exact ⟨(h2 _ (List.mem_range.1 hj)).1, (h2 _ (List.mem_range.1 hj)).2, hne _ (List.mem_range.1 hj)⟩
  clear h1 h2 h3 hne hv
  go_enter Try.func35, Try.ntmps35
  go_wp2
  rw [run_callFunc_extern Try.func39 (by kernel_rfl) (by kernel_rfl) (by kernel_rfl) (e := Extern.BytealgIndexByte.indexByte) (by kernel_rfl), hr]
  simp only [Result.andThen]
  rw [Oper.upon_value]
  go_wp2
  go_ret
  exact ⟨rfl, rfl⟩

/-! ### bytes.Index of a separator of two bytes whose first the text does not hold -/
theorem index_none (xs : List Int) (hw : ∀ x ∈ xs, 0 ≤ x ∧ x < 256 ∧ ¬ x = 13) : Lib.index (Lib.bytesOf xs) (Lib.bytesOf [13, 10]) = -1 := by
  unfold Lib.bytesOf
  induction xs with
  | nil => rfl
  | cons x xs ih =>
    have hx := hw x (by simp)
    rw [List.map_cons, Lib.index, ih (fun y hy => hw y (by simp [hy]))]
    have hne : ¬ (13 : UInt8) = UInt8.ofNat x.toNat := by
      intro h
      have := congrArg UInt8.toNat h
      simp at this
      omega
    have hp : List.isPrefixOf (List.map (fun n : Int => UInt8.ofNat n.toNat) [13, 10]) (UInt8.ofNat x.toNat :: List.map (fun n : Int => UInt8.ofNat n.toNat) xs) = false := by
      simp only [List.map_cons, List.map_nil, List.isPrefixOf, Bool.and_eq_false_iff, beq_eq_false_iff_ne]
      exact .inl hne
    rw [hp]
    rfl

theorem glob0 : Try.prog.globals.findIdx? (·.name == "internal/bytealg.MaxLen") = some 0 := by kernel_rfl

set_option maxHeartbeats 1000000 in
set_option maxRecDepth 100000 in
theorem index_win (p : Option Addr) (m c b2 : Nat) (g : Nat → Int) (mx : Int) (w : World) (hm : m ≤ 1048577) (hmx : w.cell? ⟨0, 0, none⟩ = some (.int .i64 mx)) (h : Win w p m c g) (hb2 : b2 < w.heap.size) (hc0 : w.cell? ⟨b2, 0, none⟩ = some (.int .u8 13)) (hc1 : w.cell? ⟨b2, 1, none⟩ = some (.int .u8 10)) (hne : ∀ j, j < m → ¬ g j = 13) :
    Calls Try.prog 31 #[.slice p m c, .slice (some ⟨b2, 0, none⟩) 2 2] w fun e w' => e = .returned (.int .i64 (-1)) ∧ w = w' := by
  have hs2 : Win w (some ⟨b2, 0, none⟩) 2 2 (fun j => if j = 0 then 13 else 10) := ⟨Nat.le_refl _, fun j _ => by dsimp only; split <;> exact ⟨by decide, by decide⟩, fun _ => ⟨b2, 0, rfl, hb2, fun j hj => by
    rcases (show j = 0 ∨ j = 1 from by omega) with rfl | rfl
    · exact hc0
    · exact hc1⟩⟩
  by_cases h2 : m = 2
  · subst h2
    have he := equal_no (some ⟨b2, 0, none⟩) p 2 2 2 c (fun j => if j = 0 then 13 else 10) g w (by omega) (by omega) hs2 h (fun e => hne 0 (by omega) e.symm)
    clear hs2 h hne
    go_enter Try.func31, Try.ntmps31
    go_wp2_with (go_at_call 29; refine he.mono ?_; rintro e w' ⟨rfl, rfl⟩)
    go_ret
    exact ⟨rfl, rfl⟩
  · by_cases h3 : m < 2
    · clear hs2 h hne
      go_enter Try.func31, Try.ntmps31
      go_wp2
      go_ret
      exact ⟨rfl, rfl⟩
    · have h23 : 2 < m := by omega
      have hbq : ((2 : Int) == (m : Int)) = false := beq_eq_false_iff_ne.2 (by omega)
      have hlq : (2 : Int) < (m : Int) := by omega
      clear h2 h3
      have hg0 : (g 0 != 13) = true := by rw [bne_iff_ne]; exact hne 0 (by omega)
      obtain ⟨p', hsl, hw'⟩ := slice_win h 1 (m - 1) (by omega) (by omega)
      have hib := indexByte_win 13 (by omega) p' (m - 1 - 1) (c - 1) _ w hw' (fun j hj => hne _ (by omega))
      rw [show ((1 : Nat) : Int) = 1 from rfl, show ((m - 1 : Nat) : Int) = (m : Int) - 2 + 1 from by omega] at hsl
      have hwin := h
      obtain ⟨hc, hr, hcell⟩ := h
      obtain ⟨b, o, rfl, hlt, hcell⟩ := hcell (by omega)
      have hcel0 := hcell 0 (by omega)
      rw [Nat.add_zero] at hcel0
      by_cases hM : 2 ≤ mx
      · by_cases h64 : m ≤ 64
        · have hr2 := Lib.run_indexAt (P := Try.prog) w ⟨b, o, none⟩ ⟨b2, 0, none⟩ m c 2 2 ((List.range m).map g) [13, 10] (by simp) rfl (fun i hi => by rw [WideShapes.add_plain, nums_getD g m i hi]; exact hcell i hi)
            (fun i hi => by
              rcases (show i = 0 ∨ i = 1 from by omega) with rfl | rfl
              · exact hc0
              · exact hc1) 0 mx glob0 hmx (by omega) hM (by omega)
          rw [index_none _ (fun x hx => by
            obtain ⟨j, hj, rfl⟩ := List.mem_map.1 hx
            exact ⟨(hr _ (List.mem_range.1 hj)).1, (hr _ (List.mem_range.1 hj)).2, hne _ (List.mem_range.1 hj)⟩)] at hr2
          clear hs2 hwin hne hib hsl hw' hcell hr
          go_enter Try.func31, Try.ntmps31
          go_wp2
          rw [run_callFunc_extern Try.func36 (by kernel_rfl) (by kernel_rfl) (by kernel_rfl) (e := Extern.BytealgIndex.index) (by kernel_rfl), hr2]
          simp only [Result.andThen]
          rw [Oper.upon_value]
          go_wp2
          go_ret
          exact ⟨rfl, rfl⟩
        · clear hs2 hwin hne hw' hcell hr
          go_enter Try.func31, Try.ntmps31
          go_wp2
          refine wp_loop_rounds 1 ?_
          rw [rounds_succ]
          go_wp2_with (go_at_call 35; go_must (refine hib.mono ?_); rintro e w' ⟨rfl, rfl⟩)
          go_ret
          exact ⟨rfl, rfl⟩
      · clear hs2 hwin hne hw' hcell hr
        go_enter Try.func31, Try.ntmps31
        go_wp2
        refine wp_loop_rounds 1 ?_
        rw [rounds_succ]
        go_wp2_with (go_at_call 35; go_must (refine hib.mono ?_); rintro e w' ⟨rfl, rfl⟩)
        go_ret
        exact ⟨rfl, rfl⟩
end Go.Proofs.Qxb6003688a
