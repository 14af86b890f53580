/-
  SEAT b6003772a: the library's functions on the road; slices of the texts; appends onto what the call builds.
-/
import Derived.Test.Qxb6003772aWalkB
import Derived.Shelf.Bytes.SlIndexAt
import Derived.Shelf.Bytes.SlEqualAll
import Derived.Lib.SlBytesConst
import Derived.Lib.IndexLaws
import Derived.Deep.DeepCutAuto
namespace Go.Proofs.Qxb6003772a
open Go.RowKit Math

/-! ### Slices of a text -/
theorem mem_drop {l : List Int} {k : Nat} {x : Int} (h : x ∈ l.drop k) : x ∈ l := List.mem_of_mem_drop h
theorem mem_take {l : List Int} {k : Nat} {x : Int} (h : x ∈ l.take k) : x ∈ l := List.mem_of_mem_take h

theorem slice_from {w : World} {p : Option Addr} {n c : Nat} {l : List Int} (h : Txt w p n c l) (lo : Nat) (h1 : lo ≤ n) :
    ∃ p', (∀ W, (Instr.slice 22 (.slice p n c) (some (.int .i64 lo)) none none).run Try.prog W = .ok (.slice p' (n - lo) (c - lo)) W) ∧ Txt w p' (n - lo) (c - lo) (l.drop lo) ∧ (p.isSome = true → p'.isSome = true) := by
  have hz : ∀ W, (Go.sizeOf (Try.prog.elem 22)).run Try.prog W = .ok 1 W := fun W => by kernel_rfl
  obtain ⟨g0, g1, g2, g3⟩ := h
  refine ⟨if c = lo then p else p.map (·.add (lo * 1)), fun W => ?_, ⟨by rw [List.length_drop, g0], by omega, fun x hx => g2 x (mem_drop hx), fun hm => ?_⟩, fun hs => ?_⟩
  · rw [run_slice_l W 22 p n c (by kernel_rfl) .i64 lo (by omega) (by omega), hz]
    simp only [Result.andThen, sliced, Int.toNat_natCast]
  · obtain ⟨b, o, rfl, hlt, hc⟩ := g3 (by omega)
    refine ⟨b, o + lo, ?_, hlt, fun j hj => by rw [Nat.add_assoc, nth_drop]; exact hc _ (by omega)⟩
    rw [if_neg (by omega), Option.map_some, WideShapes.add_plain, Nat.mul_one]
  · split
    · exact hs
    · simpa using hs

theorem slice_upto {w : World} {p : Option Addr} {n c : Nat} {l : List Int} (h : Txt w p n c l) (hi : Nat) (h1 : hi ≤ n) :
    ∃ p', (∀ W, (Instr.slice 22 (.slice p n c) none (some (.int .i64 hi)) none).run Try.prog W = .ok (.slice p' hi c) W) ∧ Txt w p' hi c (l.take hi) := by
  have hz : ∀ W, (Go.sizeOf (Try.prog.elem 22)).run Try.prog W = .ok 1 W := fun W => by kernel_rfl
  obtain ⟨g0, g1, g2, g3⟩ := h
  refine ⟨if c = 0 then p else p.map (·.add (0 * 1)), fun W => ?_, by rw [List.length_take, g0]; omega, by omega, fun x hx => g2 x (mem_take hx), fun hm => ?_⟩
  · rw [run_slice_h W 22 p n c (by kernel_rfl) .i64 hi (by omega) (by omega), hz]
    simp only [Result.andThen, sliced, Int.toNat_natCast, Nat.sub_zero]
  · obtain ⟨b, o, rfl, hlt, hc⟩ := g3 (by omega)
    refine ⟨b, o, ?_, hlt, fun j hj => by rw [nth_take l hi j hj]; exact hc _ (by omega)⟩
    rw [if_neg (by omega), Option.map_some, WideShapes.add_plain, Nat.zero_mul, Nat.add_zero]

theorem slice_mid {w : World} {p : Option Addr} {n c : Nat} {l : List Int} (h : Txt w p n c l) (lo hi : Nat) (h0 : lo ≤ hi) (h1 : hi ≤ n) :
    ∃ p', (∀ W, (Instr.slice 22 (.slice p n c) (some (.int .i64 lo)) (some (.int .i64 hi)) none).run Try.prog W = .ok (.slice p' (hi - lo) (c - lo)) W) ∧ Txt w p' (hi - lo) (c - lo) ((l.drop lo).take (hi - lo)) ∧ (p.isSome = true → p'.isSome = true) := by
  have hz : ∀ W, (Go.sizeOf (Try.prog.elem 22)).run Try.prog W = .ok 1 W := fun W => by kernel_rfl
  obtain ⟨g0, g1, g2, g3⟩ := h
  refine ⟨if c = lo then p else p.map (·.add (lo * 1)), fun W => ?_, ⟨by rw [List.length_take, List.length_drop, g0]; omega, by omega, fun x hx => g2 x (mem_drop (mem_take hx)), fun hm => ?_⟩, fun hs => ?_⟩
  · rw [run_slice_lh W 22 p n c (by kernel_rfl) .i64 .i64 lo hi (by omega) (by omega) (by omega), hz]
    simp only [Result.andThen, sliced, Int.toNat_natCast]
  · obtain ⟨b, o, rfl, hlt, hc⟩ := g3 (by omega)
    refine ⟨b, o + lo, ?_, hlt, fun j hj => by rw [Nat.add_assoc, nth_take _ _ j hj, nth_drop]; exact hc _ (by omega)⟩
    rw [if_neg (by omega), Option.map_some, WideShapes.add_plain, Nat.mul_one]
  · split
    · exact hs
    · simpa using hs

/-! ### string(b); bytes.Equal -/
theorem conv_txt {w : World} {p : Option Addr} {n c : Nat} {l : List Int} (h : Txt w p n c l) : (convert 22 9 (.slice p n c)).run Try.prog w = .ok (.string (strOfNums l)) w := by
  obtain ⟨g0, g1, g2, g3⟩ := h
  rcases Nat.eq_zero_or_pos n with rfl | hn
  · obtain rfl : l = [] := List.eq_nil_of_length_eq_zero g0
    exact run_convert_bytes_zero w 22 5 Try.underlying22 Try.underlying5 p c 9 Try.underlying9
  · obtain ⟨b, o, rfl, _, hc⟩ := g3 hn
    exact run_convert_bytes_arg (P := Try.prog) w 22 5 Try.underlying22 Try.underlying5 b o n c l g0 hc 9 Try.underlying9

theorem bytesOf_inj (s t : List Int) (hs : ∀ x ∈ s, 0 ≤ x ∧ x < 256) (ht : ∀ x ∈ t, 0 ≤ x ∧ x < 256) (h : Lib.bytesOf s = Lib.bytesOf t) : s = t := by
  unfold Lib.bytesOf at h
  induction s generalizing t with
  | nil => cases t with
    | nil => rfl
    | cons y t => simp at h
  | cons x s ih => cases t with
    | nil => simp at h
    | cons y t =>
      rw [List.map_cons, List.map_cons] at h
      have h1 := (List.cons.inj h).1
      have h2 := (List.cons.inj h).2
      have hx := hs x (by simp)
      have hy := ht y (by simp)
      have h1 := congrArg UInt8.toNat h1
      simp at h1
      rw [ih t (fun z hz => hs z (by simp [hz])) (fun z hz => ht z (by simp [hz])) h2]
      congr 1
      omega

theorem str_eq (s t : List Int) (b : Bool) (hs : ∀ x ∈ s, 0 ≤ x ∧ x < 256) (ht : ∀ x ∈ t, 0 ≤ x ∧ x < 256) (hb : decide (s = t) = b) : ((strOfNums s).toList == (strOfNums t).toList) = b := by
  rw [Lib.strOfNums_toList, Lib.strOfNums_toList, ← hb]
  by_cases h : s = t
  · subst h; simp
  · rw [decide_eq_false h, beq_eq_false_iff_ne]
    exact fun e => h (bytesOf_inj s t hs ht e)

set_option maxHeartbeats 400000 in
theorem bequal_any (p q : Option Addr) (n m c d : Nat) (s t : List Int) (b : Bool) (w : World) (h1 : Txt w p n c s) (h2 : Txt w q m d t) (hb : Hid (decide (s = t) = b)) :
    Calls Try.prog 30 #[.slice p n c, .slice q m d] w fun e w' => e = .returned (.bool b) ∧ w = w' := by
  have v1 := conv_txt h1
  have v2 := conv_txt h2
  have hd := str_eq s t b h1.2.2.1 h2.2.2.1 hb.out
  clear h1 h2
  generalize strOfNums s = s1 at *
  generalize strOfNums t = s2 at *
  go_enter Try.func30, Try.ntmps30
  go_wp2
  go_ret
  exact ⟨rfl, rfl⟩

/-! ### bytes.HasPrefix -/
theorem prefix_len (s t : List Int) (h : s.length < t.length) : t.isPrefixOf s = false := by
  cases hp : t.isPrefixOf s with
  | false => rfl
  | true => have := (List.isPrefixOf_iff_prefix.1 hp).length_le; omega
theorem prefix_take (s t : List Int) : t.isPrefixOf s = decide (s.take t.length = t) := by
  by_cases h : s.take t.length = t
  · rw [decide_eq_true h]
    exact List.isPrefixOf_iff_prefix.2 (List.prefix_iff_eq_take.2 h.symm)
  · rw [decide_eq_false h]
    cases hp : t.isPrefixOf s with
    | false => rfl
    | true => exact absurd (List.prefix_iff_eq_take.1 (List.isPrefixOf_iff_prefix.1 hp)).symm h

set_option maxHeartbeats 400000 in
theorem hasPrefix_any (p q : Option Addr) (n m c d : Nat) (s t : List Int) (b : Bool) (w : World) (h1 : Txt w p n c s) (h2 : Txt w q m d t) (hb : Hid (t.isPrefixOf s = b)) :
    Calls Try.prog 24 #[.slice p n c, .slice q m d] w fun e w' => e = .returned (.bool b) ∧ w = w' := by
  by_cases hlt : n < m
  · have hd : decide ((m : Int) ≤ (n : Int)) = false := decide_eq_false (by omega)
    have hb2 : false = b := by rw [← hb.out]; exact (prefix_len s t (by rw [h1.1, h2.1]; exact hlt)).symm
    subst hb2
    clear h1 h2 hb
    go_enter Try.func24, Try.ntmps24
    go_wp2
    go_ret
    exact ⟨rfl, rfl⟩
  · have hle : (m : Int) ≤ (n : Int) := by omega
    obtain ⟨p', hsl, ht'⟩ := slice_upto h1 m (by omega)
    have he := bequal_any p' q m m c d (s.take m) t b w ht' h2 (by have := hb.out; rw [prefix_take, h2.1] at this; exact this)
    clear h1 h2 hb ht'
    go_enter Try.func24, Try.ntmps24
    go_wp2_with (go_at_call 30; refine he.mono ?_; rintro e w' ⟨rfl, rfl⟩)
    go_ret
    exact ⟨rfl, rfl⟩

/-! ### bytes.IndexByte: found or not -/
theorem indexByte_found (v : Int) (hv : 0 ≤ v ∧ v < 256) (xs : List Int) (hw : ∀ x ∈ xs, 0 ≤ x ∧ x < 256) : (v ∉ xs ∧ Lib.indexByte (Lib.bytesOf xs) v.toNat.toUInt8 = -1) ∨ (v ∈ xs ∧ 0 ≤ Lib.indexByte (Lib.bytesOf xs) v.toNat.toUInt8) := by
  unfold Lib.bytesOf
  induction xs with
  | nil => exact .inl ⟨by simp, rfl⟩
  | cons x xs ih =>
    have hx := hw x (by simp)
    have ih := ih (fun y hy => hw y (by simp [hy]))
    rw [List.map_cons, Lib.indexByte]
    by_cases e : x = v
    · subst e
      exact .inr ⟨by simp, by simp⟩
    · have hne : (UInt8.ofNat x.toNat == v.toNat.toUInt8) = false := by
        rw [beq_eq_false_iff_ne]
        intro h
        have := congrArg UInt8.toNat h
        simp at this
        omega
      rw [hne]
      rcases ih with ⟨h1, h2⟩ | ⟨h1, h2⟩
      · refine .inl ⟨by simp only [List.mem_cons, not_or]; exact ⟨fun h => e h.symm, h1⟩, ?_⟩
        rw [h2]
        rfl
      · refine .inr ⟨by simp [h1], ?_⟩
        generalize Lib.indexByte (List.map (fun n : Int => UInt8.ofNat n.toNat) xs) v.toNat.toUInt8 = i at h2
        have hi : (i == -1) = false := beq_eq_false_iff_ne.2 (by omega)
        simp only [hi]
        show (0 : Int) ≤ i + 1
        omega

set_option maxHeartbeats 400000 in
theorem indexByte_any (v : Int) (hv : 0 ≤ v ∧ v < 256) (p : Option Addr) (n c : Nat) (l : List Int) (w : World) (h : Txt w p n c l) :
    ∃ i : Int, ((v ∉ l ∧ i = -1) ∨ (v ∈ l ∧ 0 ≤ i)) ∧ ∀ W, Below w.heap.size w W → Calls Try.prog 25 #[.slice p n c, .int .u8 v] W fun e w' => e = .returned (.int .i64 i) ∧ W = w' := by
  refine ⟨Lib.indexByte (Lib.bytesOf l) v.toNat.toUInt8, indexByte_found v hv l h.2.2.1, fun W hW => ?_⟩
  obtain ⟨g0, g1, g2, g3⟩ := h.later hW
  have hr : (Extern.BytealgIndexByte.indexByte #[.slice p n c, .int .u8 v]).run Try.prog W = .ok (.int .i64 (Lib.indexByte (Lib.bytesOf l) v.toNat.toUInt8)) W := by
    rcases Nat.eq_zero_or_pos n with rfl | hm
    · obtain rfl : l = [] := List.eq_nil_of_length_eq_zero g0
      cases p with
      | none => exact Lib.run_indexByteNil W 0 c v
      | some a => exact Lib.run_indexByteAt W a 0 c [] rfl (fun i hi => absurd hi (Nat.not_lt_zero _)) v
    · obtain ⟨b, o, rfl, hlt, hc⟩ := g3 hm
      exact Lib.run_indexByteAt W ⟨b, o, none⟩ n c l g0 (fun i hi => by rw [WideShapes.add_plain]; exact hc i hi) v
  generalize Lib.indexByte (Lib.bytesOf l) v.toNat.toUInt8 = i at hr ⊢
  clear h g0 g1 g2 g3 hv hW
  go_enter Try.func25, Try.ntmps25
  go_wp2
  rw [run_callFunc_extern Try.func31 (by kernel_rfl) (by kernel_rfl) (by kernel_rfl) (e := Extern.BytealgIndexByte.indexByte) (by kernel_rfl), hr]
  simp only [Result.andThen]
  rw [Oper.upon_value]
  go_wp2
  go_ret
  exact ⟨rfl, rfl⟩
end Go.Proofs.Qxb6003772a
