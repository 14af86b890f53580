/-
  SEAT b6602523a: addText.
-/
import Derived.Test.Qxb6602523aWalkC
namespace Go.Proofs.Qxb6602523a
open Go.RowKit Math

set_option maxHeartbeats 2000000 in
theorem addText_any (B P F : Nat) (S : ByteArray) (N0 : List Node) (fl0 : Bool) (w : World) (hn : N0.length + 2 * S.size ≤ 4194304) (h : Pz B w P F N0 fl0) :
    Calls Try.prog 20 #[.pointer (some ⟨P, 0, none⟩), .string S] w fun e w' => e = .returned (.tuple #[]) ∧ Pz B w' P F (addN S.size S.data.toList N0 fl0).1 (addN S.size S.data.toList N0 fl0).2 ∧ Below B w w' := by
  obtain ⟨A, HA⟩ : ∃ A, Hid (addN S.size S.data.toList N0 fl0 = A) := ⟨_, rfl⟩
  rw [HA.out]
  go_enter Try.func20, Try.ntmps20
  go_wp2
  go_loopg [1] S.size (fun gk s wr => ∃ (t : ByteArray) (N : List Node) (fl : Bool), t.size = gk ∧ s = .string t ∧ Hid (addN t.size t.data.toList N fl = A) ∧ N.length + 2 * t.size ≤ 4194304 ∧ Pz B wr P F N fl ∧ Below B w wr)
  case atStart => exact ⟨S, N0, fl0, rfl, rfl, HA, hn, h, Below.refl _ _⟩
  case round =>
    clear h HA hn
    obtain ⟨t, N, fl, rfl, rfl, HA, hn, h, hb⟩ := hrel
    have hsz : t.data.toList.length = t.size := by simp
    have hE : t.toList = t.data.toList := Lib.toList_data t
    by_cases he : t.data.toList = []
    · have hE1 : t.toList.isEmpty = true := by rw [hE, he]; rfl
      rw [he, addN_nil] at HA
      have e := HA.out
      clear hE hsz he
      go_wp2
      go_end0
      subst e
      exact ⟨rfl, h, hb⟩
    · have hE1 : t.toList.isEmpty = false := by
        rw [hE]
        cases hl : t.data.toList with
        | nil => exact absurd hl he
        | cons c l => rfl
      obtain ⟨i, pc, rs, h1, h2, h3, h4, h5⟩ := cut_line t
      have hpos := line1_pos _ he
      have hle := line1_le t.data.toList
      have hps : pc.size = (line1 t.data.toList).length := by rw [← h2]; simp
      have hrz : rs.size = t.size - pc.size := by
        rw [show rs.size = rs.data.toList.length from by simp, h3, List.length_drop, hsz, hps]
      have hmk := mk_le N fl
      have HA2 : Hid (addN rs.size rs.data.toList (mk N fl ++ [(0, pc)]) (endsNL pc.data.toList) = A) := by
        have e := HA.out
        obtain ⟨m, hm⟩ : ∃ m, t.size = m + 1 := ⟨t.size - 1, by omega⟩
        rw [hm, addN_step m _ _ _ he, ← h2, ← ba_eq pc _ rfl, h2, ← h3] at e
        rw [h2]
        rw [addN_fuel rs.size m _ _ _ (by simp) (by simp; omega)]
        exact e
      have hN1 : (mk N fl).length ≤ 4194304 := by omega
      have hN2 : (mk N fl ++ [(0, pc)]).length + 2 * rs.size ≤ 4194304 := by rw [List.length_append]; simp only [List.length_cons, List.length_nil]; omega
      have hps1 : 1 ≤ pc.size := by omega
      have hpt : pc.size ≤ t.size := by omega
      have hts : t.size ≤ 4194304 := by omega
      have hpb : pc.size ≤ 9223372036854775807 := by omega
      have hi := ib_any t i h1 wr
      have hm := mark_any B P F N fl wr (by omega) h
      clear hsz hE he h1 h2 h3 hps hpos hle HA hmk hn h
      rcases h5 with ⟨rfl, rfl⟩ | ⟨k, rfl, hk, h5⟩
      · go_wp2_with (first
          | (go_at_call 22; refine hi.mono ?_; rintro e w' ⟨rfl, rfl⟩)
          | (go_at_call 21; refine hm.mono ?_; rintro e w1 ⟨rfl, z1, b1⟩)
          | (go_at_call 23; refine (addZ0 B P F pc (mk N fl) false w1 hN1 z1).mono ?_; rintro e w2 ⟨rfl, z2, b2⟩; obtain ⟨q0, q1, q2⟩ := z2.flag)
          | (go_at_call 24; refine (hs_any pc w2 hpb).mono ?_; rintro e w' ⟨rfl, rfl⟩))
        go_roundg rs.size
        case measure => go_light; omega
        case rel => exact ⟨rs, _, _, rfl, rfl, HA2, hN2, z2.setFlag _, ((hb.trans b1).trans b2).setCell q2 _⟩
      · have hk0 : (0 : Int) ≤ (k : Int) := by omega
        have hk9 : k < 4194304 := by omega
        go_wp2_with (first
          | (go_at_call 22; refine hi.mono ?_; rintro e w' ⟨rfl, rfl⟩)
          | (go_at_call 21; refine hm.mono ?_; rintro e w1 ⟨rfl, z1, b1⟩)
          | (go_at_call 23; refine (addZ0 B P F pc (mk N fl) false w1 hN1 z1).mono ?_; rintro e w2 ⟨rfl, z2, b2⟩; obtain ⟨q0, q1, q2⟩ := z2.flag)
          | (go_at_call 24; refine (hs_any pc w2 hpb).mono ?_; rintro e w' ⟨rfl, rfl⟩))
        go_roundg rs.size
        case measure => go_light; omega
        case rel => exact ⟨rs, _, _, rfl, rfl, HA2, hN2, z2.setFlag _, ((hb.trans b1).trans b2).setCell q2 _⟩
end Go.Proofs.Qxb6602523a
