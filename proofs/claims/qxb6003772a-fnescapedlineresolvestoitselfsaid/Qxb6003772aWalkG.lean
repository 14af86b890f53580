/-
  SEAT b6003772a: ZZScan; definition at no delimiter, and at a header's delimiters; CutPrefix; isDocumentation.
-/
import Derived.Test.Qxb6003772aWalkF
namespace Go.Proofs.Qxb6003772a
open Go.RowKit Math

set_option maxHeartbeats 400000 in
theorem zzscan_any (p : Option Addr) (n c : Nat) (L : List Int) (w : World) (hn : n ≤ 8388608) (h : Txt w p n c L) :
    Calls Try.prog 10 #[.slice p n c, .slice none 0 0] w fun e w' => ScanPost w L e w' := by
  have hs := scan_any p n c L w hn h
  clear h
  go_enter Try.func10, Try.ntmps10
  go_wp2_with (go_at_call 20; refine hs.mono ?_; rintro e w' ⟨pt, nt, ct, pd, nd, cd, T, D, rfl, h2, h3, h4, h5⟩)
  go_ret2
  exact ScanPost.intro pt nt ct pd nd cd T D rfl h2 h3 h4 h5

/-! ### definition: no delimiter -/
set_option maxHeartbeats 400000 in
theorem def_none (p pd : Option Addr) (n c cd : Nat) (w : World) :
    Calls Try.prog 21 #[.slice p n c, .slice pd 0 cd] w fun e w' => e = .returned (.tuple #[.string ⟨#[]⟩, .slice none 0 0, .bool false]) ∧ w = w' := by
  go_enter Try.func21, Try.ntmps21
  go_wp2
  go_ret3
  exact ⟨rfl, rfl⟩
set_option maxHeartbeats 400000 in
theorem zzdef_none (p pd : Option Addr) (n c cd : Nat) (w : World) :
    Calls Try.prog 12 #[.slice p n c, .slice pd 0 cd] w fun e w' => e = .returned (.tuple #[.string ⟨#[]⟩, .slice none 0 0, .bool false]) ∧ w = w' := by
  go_enter Try.func12, Try.ntmps12
  go_wp2_with (go_at_call 21; refine (def_none _ _ _ _ _ _).mono ?_; rintro e w' ⟨rfl, rfl⟩)
  go_ret3
  exact ⟨rfl, rfl⟩

/-! ### bytes.CutPrefix, the prefix there -/
set_option maxHeartbeats 400000 in
theorem cut_yes (p q : Option Addr) (n m c d : Nat) (s t : List Int) (w : World) (h1 : Txt w p n c s) (h2 : Txt w q m d t) (hmn : m ≤ n) (hb : Hid (t.isPrefixOf s = true)) :
    ∃ p', Txt w p' (n - m) (c - m) (s.drop m) ∧ Calls Try.prog 27 #[.slice p n c, .slice q m d] w fun e w' => e = .returned (.tuple #[.slice p' (n - m) (c - m), .bool true]) ∧ w = w' := by
  obtain ⟨p', hsl, ht, _⟩ := slice_from h1 m hmn
  refine ⟨p', ht, ?_⟩
  have hp := hasPrefix_any p q n m c d s t true w h1 h2 hb
  clear h1 h2 hb ht
  go_enter Try.func27, Try.ntmps27
  go_wp2_with (go_at_call 24; refine hp.mono ?_; rintro e w' ⟨rfl, rfl⟩)
  go_ret2
  exact ⟨rfl, rfl⟩

/-! ### definition: a header -/
/-- The delimiters of a header: the first at 0, open; then r that are open; then one at k that is not. -/
structure Hdr (D : List (Nat × Bool)) (r k : Nat) : Prop where
  first : dAt D 0 = 0 ∧ dOp D 0 = true
  opens : ∀ j, 0 < j → j ≤ r → dOp D j = true
  close : dAt D (r + 1) = k ∧ dOp D (r + 1) = false
  len : r + 2 ≤ D.length

def DefPost (w : World) (n c k : Nat) (T : List Int) (e : Ending) (w' : World) : Prop :=
  ∃ p', e = .returned (.tuple #[.string (strOfNums ((T.drop 2).take (k - 2))), .slice p' (n - (k + 2) - 1) (c - (k + 2) - 1), .bool true]) ∧ Txt w' p' (n - (k + 2) - 1) (c - (k + 2) - 1) (T.drop (k + 3)) ∧ Below w.heap.size w w'

set_option maxHeartbeats 2000000 in
theorem def_hdr (p : Option Addr) (n c g nd cd r k : Nat) (T : List Int) (D : List (Nat × Bool)) (w : World) (hn : n ≤ 8388608) (hnd : nd ≤ 8388608) (hT : Txt w p n c T) (hD : Dl w (some ⟨g, 0, none⟩) nd cd D) (H : Hdr D r k) (hk2 : 2 ≤ k) (hkn : k + 3 ≤ n) (h61 : nth T (k + 2) = 61) :
    Calls Try.prog 21 #[.slice p n c, .slice (some ⟨g, 0, none⟩) nd cd] w fun e w' => DefPost w n c k T e w' := by
  obtain ⟨hd0, hd1, hd2⟩ := hD
  have hr : r + 2 ≤ nd := by rw [← hd0]; exact H.len
  obtain ⟨g', e, hgl, hcs⟩ := hd2 (by omega)
  cases e
  have HCS : Hid (∀ W : World, Below w.heap.size w W → ∀ j, j < nd → W.cell? ⟨g, 2 * j, none⟩ = some (.int .i64 (dAt D j)) ∧ W.cell? ⟨g, 2 * j + 1, none⟩ = some (.bool (dOp D j))) := fun W hW j hj => by
    rw [hW.cell (p := ⟨g, 2 * j, none⟩) hgl, hW.cell (p := ⟨g, 2 * j + 1, none⟩) hgl]
    exact hcs j hj
  have c0 := (hcs 0 (by omega)).1
  have c1 := (hcs 0 (by omega)).2
  rw [H.first.1] at c0
  rw [H.first.2] at c1
  have c0 : w.cell? ⟨g, 0, none⟩ = some (.int .i64 0) := c0
  have c1 : w.cell? ⟨g, 1, none⟩ = some (.bool true) := c1
  have ncd : ¬ cd = 1 := by omega
  have hb0 : ((nd : Int) == 0) = false := beq_eq_false_iff_ne.2 (by omega)
  have hz1 : (1 : Int) ≤ (nd : Int) := by omega
  have hz0 : (0 : Int) < (nd : Int) := by omega
  clear hcs hd0 hd2
  obtain ⟨m, rfl⟩ : ∃ m, nd = m + 1 := ⟨nd - 1, by omega⟩
  have HT : Hid (Txt w p n c T) := hT
  clear hT
  go_enter Try.func21, Try.ntmps21
  go_wp2
  clear c0 c1 hb0 hz1 hz0 ncd
  go_loopg [31] (r + 1) (fun gk t wr => ∃ j : Nat, j ≤ r ∧ r + 1 - j = gk ∧ t = .int .i64 j ∧ Below w.heap.size w wr)
  case atStart => exact ⟨0, Nat.zero_le _, rfl, rfl, Below.refl _ _⟩
  case round =>
    obtain ⟨j, hj, rfl, rfl, hbel⟩ := hrel
    have hjm : (j : Int) < (m : Int) := by omega
    have c0 := (HCS.out wr hbel (j + 1) (by omega)).1
    have c1 := (HCS.out wr hbel (j + 1) (by omega)).2
    rw [show 2 * (j + 1) = 2 + j * 2 from by omega] at c0 c1
    by_cases hjr : j < r
    · rw [H.opens (j + 1) (by omega) (by omega)] at c1
      have hgr : g < wr.heap.size := Nat.lt_of_lt_of_le hgl hbel.size
      go_wp2
      go_roundg (r + 1 - (j + 1))
      case measure => go_light; omega
      case rel => exact ⟨j + 1, by omega, rfl, by go_num, hbel.alloc hbel.size _⟩
    · obtain rfl : j = r := by omega
      rw [H.close.1] at c0
      rw [H.close.2] at c1
      have hgr : g < wr.heap.size := Nat.lt_of_lt_of_le hgl hbel.size
      have hb1 : Below w.heap.size w (wr.alloc (.cells #[.int .i64 k, .bool false] 38)) := hbel.alloc hbel.size _
      have hb2 : Below w.heap.size w ((wr.alloc (.cells #[.int .i64 k, .bool false] 38)).alloc (.cells #[.int .u8 61] 5 (1, 2))) := hb1.alloc hb1.size _
      obtain ⟨ps, hsl, hts, _⟩ := slice_from (HT.out.later hb2) (k + 2) (by omega)
      obtain ⟨p', htx, hcut⟩ := cut_yes ps (some ⟨(wr.alloc (.cells #[.int .i64 k, .bool false] 38)).heap.size, 0, none⟩) (n - (k + 2)) 1 (c - (k + 2)) 1 (T.drop (k + 2)) [61] _ hts (const_txt (wr.alloc (.cells #[.int .i64 k, .bool false] 38)) [61] 1 rfl (by intro x hx; simp at hx; omega) (1, 2)) (by omega) (by
        show List.isPrefixOf [61] (T.drop (k + 2)) = true
        rw [drop_one T (k + 2) (by rw [HT.out.1]; omega), h61]
        rfl)
      rw [show (wr.alloc (.cells #[.int .i64 k, .bool false] 38)).heap.size = wr.heap.size + 1 from by simp] at hcut
      rw [List.drop_drop] at htx
      have HX : Hid (Txt ((wr.alloc (.cells #[.int .i64 k, .bool false] 38)).alloc (.cells #[.int .u8 61] 5 (1, 2))) p' (n - (k + 2) - 1) (c - (k + 2) - 1) (T.drop (k + 3))) := htx
      obtain ⟨p3, hsl3, ht3, _⟩ := slice_mid (HT.out.later hb2) 2 k hk2 (by omega)
      have hcv := conv_txt ht3
      rw [show ((2 : Nat) : Int) = 2 from rfl] at hsl3
      rw [show ((k + 2 : Nat) : Int) = (k : Int) + 2 from by omega] at hsl
      have kc := fun (w : World) (C : Array Value) (n c : Nat) => Lib.run_convert_bytes_const (P := Try.prog) w 22 5 C n c Try.underlying22 Try.underlying5
      have kc2 := kc (wr.alloc (.cells #[.int .i64 k, .bool false] 38))
      rw [show (wr.alloc (.cells #[.int .i64 k, .bool false] 38)).heap.size = wr.heap.size + 1 from by simp] at kc2
      clear hts htx ht3 HT HCS hb1 H h61
      go_wp2_with (go_at_call 27; go_must (refine hcut.mono ?_); rintro e w' ⟨rfl, rfl⟩)
      go_ret3
      exact ⟨p', rfl, HX.out, hb2⟩
end Go.Proofs.Qxb6003772a
