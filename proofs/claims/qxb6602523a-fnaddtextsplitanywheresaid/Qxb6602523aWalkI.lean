/-
  SEAT b6602523a: FnAddTextSplitAnywhere.
-/
import Derived.Test.Qxb6602523aWalkH
namespace Go.Proofs.Qxb6602523a
open Go.RowKit Math

set_option maxHeartbeats 400000 in
theorem zz15 (b : Bool) (s t : ByteArray) (r : Bool) (hr : decide (s.size + t.size ≤ 1048576) = r) (w : World) : Calls Try.prog 15 #[.bool b, .string s, .string t] w fun e w' => e = .returned (.bool r) ∧ w = w' := by
  by_cases h : s.size ≤ 1048576
  · have h1 : ¬ (1048576 : Int) < (s.size : Int) := by omega
    by_cases h2 : t.size ≤ 1048576
    · have h3 : ¬ (1048576 : Int) < (t.size : Int) := by omega
      by_cases h4 : s.size + t.size ≤ 1048576
      · rw [decide_eq_true h4] at hr
        subst hr
        have h5 : ¬ (1048576 : Int) < (s.size : Int) + (t.size : Int) := by omega
        go_enter Try.func15, Try.ntmps15
        go_wp2
        go_ret
        exact ⟨rfl, rfl⟩
      · rw [decide_eq_false h4] at hr
        subst hr
        have h5 : (1048576 : Int) < (s.size : Int) + (t.size : Int) := by omega
        go_enter Try.func15, Try.ntmps15
        go_wp2
        go_ret
        exact ⟨rfl, rfl⟩
    · rw [decide_eq_false (by omega)] at hr
      subst hr
      have h3 : (1048576 : Int) < (t.size : Int) := by omega
      go_enter Try.func15, Try.ntmps15
      go_wp2
      go_ret
      exact ⟨rfl, rfl⟩
  · rw [decide_eq_false (by omega)] at hr
    subst hr
    have h1 : (1048576 : Int) < (s.size : Int) := by omega
    go_enter Try.func15, Try.ntmps15
    go_wp2
    go_ret
    exact ⟨rfl, rfl⟩

theorem addN_len (s : ByteArray) (N N' : List Node) (fl f' : Bool) (h : addN s.size s.data.toList N fl = (N', f')) : N'.length ≤ N.length + 2 * s.size := by
  have hl := addN_length s.size s.data.toList N fl (by simp)
  rw [h] at hl
  have e : s.data.toList.length = s.size := by simp
  rw [e] at hl
  exact hl

theorem addN_ok (s : ByteArray) (N N' : List Node) (fl f' : Bool) (h : addN s.size s.data.toList N fl = (N', f')) (hN : OkN N) : OkN N' := by
  have hl := ok_addN s.size s.data.toList N fl hN
  rw [h] at hl
  exact hl

theorem addN_tr (s : ByteArray) (N N' : List Node) (fl f' : Bool) (h : addN s.size s.data.toList N fl = (N', f')) : (trN N', f') = s.data.toList.foldl ch (trN N, fl) := by
  have hl := trN_addN s.size s.data.toList N fl (by simp)
  rw [h] at hl
  exact hl

/-- THE PLAIN LAW: a text in two parts and in one leave the same trace and the same flag. -/
theorem split_plain (a0 : Bool) (a1 a2 sm : ByteArray) (hs : sm.data.toList = a1.data.toList ++ a2.data.toList) :
    ∃ (N1 N2 N3 : List Node) (f1 f : Bool) (S : List Nat), addN a1.size a1.data.toList [] a0 = (N1, f1) ∧ addN a2.size a2.data.toList N1 f1 = (N2, f) ∧ addN sm.size sm.data.toList [] a0 = (N3, f) ∧ trN N2 = ⟨a1.data.toList ++ a2.data.toList, S⟩ ∧ trN N3 = ⟨a1.data.toList ++ a2.data.toList, S⟩ ∧ OkN N2 ∧ OkN N3 ∧ N1.length ≤ 2 * a1.size ∧ N2.length ≤ 2 * a1.size + 2 * a2.size ∧ N3.length ≤ 2 * a1.size + 2 * a2.size := by
  obtain ⟨⟨N1, f1⟩, h1⟩ : ∃ A, addN a1.size a1.data.toList [] a0 = A := ⟨_, rfl⟩
  obtain ⟨⟨N2, f2⟩, h2⟩ : ∃ A, addN a2.size a2.data.toList N1 f1 = A := ⟨_, rfl⟩
  obtain ⟨⟨N3, f3⟩, h3⟩ : ∃ A, addN sm.size sm.data.toList [] a0 = A := ⟨_, rfl⟩
  have t1 := addN_tr _ _ _ _ _ h1
  have t2 := addN_tr _ _ _ _ _ h2
  have t3 := addN_tr _ _ _ _ _ h3
  have e : (trN N2, f2) = (trN N3, f3) := by rw [t2, t1, t3, hs, List.foldl_append]
  have hx : (trN N3).text = a1.data.toList ++ a2.data.toList := by
    have := fold_text sm.data.toList (trN [], a0)
    rw [← t3, hs] at this
    exact this
  obtain ⟨e1, rfl⟩ := Prod.mk.inj e
  have hsz : sm.size = a1.size + a2.size := by
    have := congrArg List.length hs
    rw [List.length_append] at this
    simpa using this
  have l1 := addN_len _ _ _ _ _ h1
  have l2 := addN_len _ _ _ _ _ h2
  have l3 := addN_len _ _ _ _ _ h3
  simp only [List.length_nil] at l1 l3
  have h3' : trN N3 = ⟨a1.data.toList ++ a2.data.toList, (trN N3).starts⟩ := by rw [← hx]
  have o0 : OkN [] := fun d hd => by cases hd
  exact ⟨N1, N2, N3, f1, f2, (trN N3).starts, h1, h2, h3, e1.trans h3', h3', addN_ok _ _ _ _ _ h2 (addN_ok _ _ _ _ _ h1 o0), addN_ok _ _ _ _ _ h3 o0, by omega, by omega, by omega⟩

theorem str_at' (y : ByteArray) (j : Nat) (z : Int) (hz : z = j) (c : UInt8) (h : y.data.toList[j]? = some c) (W : World) : (Instr.index 9 (.string y) (.int .i64 z)).run Try.prog W = .ok (.int .u8 (c.toNat : Int)) W := by
  subst hz
  exact str_at y j c h W

def TrAt (B : Nat) (w : World) (T : List UInt8) (S : List Nat) (nt ns : Nat) (e : Ending) (w' : World) : Prop :=
  ∃ pt ct ps cs, e = .returned (.tuple #[.slice pt nt ct, .slice ps ns cs, .bool true]) ∧ OwnB B w' (.slice pt nt ct) T ∧ OwnI B w' (.slice ps ns cs) S ∧ Below B w w'

theorem trace_at (B P F : Nat) (N : List Node) (fl : Bool) (w : World) (T : List UInt8) (S : List Nat) (nt ns : Nat) (h : Pz B w P F N fl) (hok : OkN N) (hn : N.length ≤ 4194304) (hs : trN N = ⟨T, S⟩) (h1 : T.length = nt) (h2 : S.length = ns) (ht : nt ≤ 16777216) :
    Calls Try.prog 16 #[.pointer (some ⟨P, 0, none⟩)] w fun e w' => TrAt w.heap.size w T S nt ns e w' := by
  subst h1
  subst h2
  have hc := trace_any B P F N fl w h hok hn (by rw [hs]; exact ht)
  rw [hs] at hc
  exact hc

set_option maxHeartbeats 2000000 in
set_option maxRecDepth 100000 in
theorem split_law (a0 : Bool) (a1 a2 : ByteArray) (w : World) :
    Calls Try.prog 4 #[.bool a0, .string a1, .string a2] w fun e w' => e = .returned (.bool true) ∧ Below w.heap.size w w' := by
  by_cases h0 : a1.size + a2.size ≤ 1048576
  · have hz := zz15 a0 a1 a2 true (decide_eq_true h0) w
    by_cases h1 : a1.size ≤ 524288
    · have hlt1 : ¬ (524288 : Int) < (a1.size : Int) := by omega
      by_cases h2 : a2.size ≤ 524288
      · have hlt2 : ¬ (524288 : Int) < (a2.size : Int) := by omega
        obtain ⟨sm, hsm⟩ : ∃ sm, a1 ++ a2 = sm := ⟨_, rfl⟩
        have hcat : ∀ w, (Op.stringOp .add a1 a2).run Try.prog w = .ok (.string sm) w := fun w => by rw [← hsm]; exact run_string_add_sum w a1 a2 (by omega)
        have hsl : sm.data.toList = a1.data.toList ++ a2.data.toList := by rw [← hsm]; simp
        have hsz : sm.size = a1.size + a2.size := by
          have := congrArg List.length hsl
          rw [List.length_append] at this
          simpa using this
        obtain ⟨N1, N2, N3, f1, f, S, hA1, hA2, hA3, hT2, hT3, hO2, hO3, hl1, hl2, hl3⟩ := split_plain a0 a1 a2 sm hsl
        have HA1 : Hid (addN a1.size a1.data.toList [] a0 = (N1, f1)) := hA1
        have HA2 : Hid (addN a2.size a2.data.toList N1 f1 = (N2, f)) := hA2
        have HA3 : Hid (addN sm.size sm.data.toList [] a0 = (N3, f)) := hA3
        have HO2 : Hid (OkN N2) := hO2
        have HO3 : Hid (OkN N3) := hO3
        obtain ⟨T, hTe⟩ : ∃ T, a1.data.toList ++ a2.data.toList = T := ⟨_, rfl⟩
        rw [hTe] at hT2 hT3
        have HT2 : Hid (trN N2 = ⟨T, S⟩) := hT2
        have HT3 : Hid (trN N3 = ⟨T, S⟩) := hT3
        have HTE : Hid (a1.data.toList ++ a2.data.toList = T) := hTe
        obtain ⟨nt, hnt⟩ : ∃ nt, T.length = nt := ⟨_, rfl⟩
        obtain ⟨ns, hns⟩ : ∃ ns, S.length = ns := ⟨_, rfl⟩
        have hnt2 : (nt : Int) = (a1.size : Int) + (a2.size : Int) := by
          rw [← hnt, ← hTe, List.length_append]
          simp
        have HNT : Hid (T.length = nt) := hnt
        have HNS : Hid (S.length = ns) := hns
        have hnsb : ns ≤ 4194304 := by
          have := trN_starts_le N2 N2.length
          rw [List.take_length, hT2, hns] at this
          omega
        have b0 : ([] : List Node).length + 2 * a1.size ≤ 4194304 := by simp only [List.length_nil]; omega
        have b1 : N1.length + 2 * a2.size ≤ 4194304 := by omega
        have b2 : ([] : List Node).length + 2 * sm.size ≤ 4194304 := by simp only [List.length_nil]; omega
        have b3 : N2.length ≤ 4194304 := by omega
        have b4 : N3.length ≤ 4194304 := by omega
        have b5 : nt ≤ 16777216 := by omega
        clear hA1 hA2 hA3 hO2 hO3 hT2 hT3 hTe hnt hns hsm hsl hl1 hl2 hl3 hsz
        go_enter Try.func4, Try.ntmps4
        go_wp2_with (first
          | (go_at_call 15; refine hz.mono ?_; rintro e w' ⟨rfl, rfl⟩)
          | (go_at_call 7; have q := z3; clear q; refine (zzNew a0 w3).mono ?_; rintro e w4 ⟨rfl, z4, c4⟩)
          | (go_at_call 7; refine (zzNew a0 w).mono ?_; rintro e w1 ⟨rfl, z1, c1⟩)
          | (go_at_call 8; have q := z4; clear q; refine (zzAdd _ _ _ sm _ a0 N3 f w4 b2 z4 HA3.out).mono ?_; rintro e w5 ⟨rfl, z5, c5⟩; have z6 := z3.later (c4.trans c5))
          | (go_at_call 8; have q := z2; clear q; refine (zzAdd _ _ _ a2 _ f1 N2 f w2 b1 z2 HA2.out).mono ?_; rintro e w3 ⟨rfl, z3, c3⟩)
          | (go_at_call 8; refine (zzAdd _ _ _ a1 _ a0 N1 f1 w1 b0 z1 HA1.out).mono ?_; rintro e w2 ⟨rfl, z2, c2⟩)
          | (go_at_call 16; have q := o1; clear q; refine (trace_at _ _ _ N3 f w6 T S nt ns z7 HO3.out b4 HT3.out HNT.out HNS.out b5).mono ?_; rintro e w7 ⟨pt2, ct2, ps2, cs2, rfl, o3, o4, c7⟩)
          | (go_at_call 16; refine (trace_at _ _ _ N2 f w5 T S nt ns z6 HO2.out b3 HT2.out HNT.out HNS.out b5).mono ?_; rintro e w6 ⟨pt1, ct1, ps1, cs1, rfl, o1, o2, c6⟩; have z7 := z5.later c6))
        have o5 := o1.below c7
        have o6 := o2.below c7
        have z8 := z6.later (c6.trans (c7.mono c6.size))
        have z9 := z7.later c7
        have hs35 : w.heap.size ≤ w3.heap.size := Nat.le_trans c1.size (Nat.le_trans c2.size c3.size)
        have hs5 : w3.heap.size ≤ w5.heap.size := Nat.le_trans c4.size c5.size
        have BEL : Below w.heap.size w w7 := ((((c1.trans c2).trans c3).trans ((c4.trans c5).mono hs35)).trans (c6.mono (Nat.le_trans hs35 hs5))).trans (c7.mono (Nat.le_trans (Nat.le_trans hs35 hs5) c6.size))
        have HW : Hid (w.heap.size ≤ w7.heap.size) := BEL.size
        clear o1 o2 z1 z2 z3 z4 z5 z6 z7 c1 c2 c3 c4 c5 c6 c7 hcat hz HA1 HA2 HA3 HO2 HO3 HT2 HT3 hs35 hs5
        generalize w.heap.size + 1 = P1 at *
        generalize w3.heap.size + 1 = P2 at *
        go_loopg [15] nt (fun gk i wr => ∃ k : Nat, k ≤ nt ∧ nt - k = gk ∧ i = .int .i64 k ∧ w7 = wr)
        case atStart => exact ⟨0, Nat.zero_le _, rfl, rfl, rfl⟩
        case round =>
          obtain ⟨k, hk, rfl, rfl, rfl⟩ := hrel
          by_cases hkn : k < nt
          · have hkz : (k : Int) < (nt : Int) := by omega
            have hk0 : (0 : Int) ≤ (k : Int) := by omega
            obtain ⟨c, hc⟩ : ∃ c, T[k]? = some c := ⟨_, List.getElem?_eq_getElem (by rw [HNT.out]; exact hkn)⟩
            obtain ⟨g1, rfl, q1⟩ := o5.at k c hc
            obtain ⟨g2, rfl, q2⟩ := o3.at k c hc
            have hl : a1.data.toList.length = a1.size := by simp
            rw [← HTE.out] at hc
            clear o5 o3 o6 o4 z8 z9 BEL
            by_cases hka : k < a1.size
            · have hkb : (k : Int) < (a1.size : Int) := by omega
              rw [List.getElem?_append_left (by omega)] at hc
              have hx := str_at a1 k c hc
              clear hc hl
              go_wp2
              go_roundg (nt - (k + 1))
              case measure => go_light; omega
              case rel => exact ⟨k + 1, by omega, rfl, by go_num, rfl⟩
            · have hkb : ¬ (k : Int) < (a1.size : Int) := by omega
              have hkc : (0 : Int) ≤ (k : Int) - (a1.size : Int) := by omega
              have hkd : (k : Int) - (a1.size : Int) < (a2.size : Int) := by omega
              rw [List.getElem?_append_right (by omega), hl] at hc
              have hx := str_at' a2 (k - a1.size) ((k : Int) - (a1.size : Int)) (by omega) c hc
              clear hc hl
              go_wp2
              go_roundg (nt - (k + 1))
              case measure => go_light; omega
              case rel => exact ⟨k + 1, by omega, rfl, by go_num, rfl⟩
          · have hkz : ¬ (k : Int) < (nt : Int) := by omega
            go_wp2
            clear hkz hkn hk
            go_loopg [17] ns (fun gk i wr => ∃ k : Nat, k ≤ ns ∧ ns - k = gk ∧ i = .int .i64 k ∧ Below w7.heap.size w7 wr)
            case atStart => exact ⟨0, Nat.zero_le _, rfl, rfl, Below.refl _ _⟩
            case round =>
              obtain ⟨k, hk, rfl, rfl, hbel⟩ := hrel
              by_cases hkn : k < ns
              · have hkz : (k : Int) < (ns : Int) := by omega
                have hk0 : (0 : Int) ≤ (k : Int) := by omega
                obtain ⟨x, hx⟩ : ∃ x, S[k]? = some x := ⟨_, List.getElem?_eq_getElem (by rw [HNS.out]; exact hkn)⟩
                obtain ⟨g1, rfl, q1⟩ := (o6.below hbel).at k x hx
                obtain ⟨g2, rfl, q2⟩ := (o4.below hbel).at k x hx
                clear hx o5 o3 o6 o4 z8 z9 BEL
                go_wp2
                go_quiet (fail)
                go_wp2
                go_roundg (ns - (k + 1))
                case measure => go_light; omega
                case rel => exact ⟨k + 1, by omega, rfl, by go_num, hbel.trans ⟨rfl, rfl, rfl, Nat.le_refl _, fun _ _ => rfl⟩⟩
              · have hkz : ¬ (k : Int) < (ns : Int) := by omega
                have zA := z8.later hbel
                have zB := z9.later hbel
                have fx : ∀ p, p = P1 ∨ p = P2 → Calls Try.prog 14 #[.pointer (some ⟨p, 0, none⟩)] wr fun e w' => e = .returned (.bool f) ∧ wr = w' := fun p hp => hp.elim (fun e => e ▸ zzFlag _ _ _ _ _ _ zA) (fun e => e ▸ zzFlag _ _ _ _ _ _ zB)
                clear zA zB z8 z9 o5 o3 o6 o4
                go_wp2_with (go_at_call 14; refine (fx _ (by simp only [true_or, or_true])).mono ?_; rintro e w' ⟨rfl, rfl⟩)
                go_ret
                exact ⟨rfl, BEL.trans (hbel.mono HW.out)⟩
      · have hlt2 : (524288 : Int) < (a2.size : Int) := by omega
        go_enter Try.func4, Try.ntmps4
        go_wp2_with (go_at_call 15; refine hz.mono ?_; rintro e w' ⟨rfl, rfl⟩)
        go_ret
        exact ⟨rfl, Below.refl _ _⟩
    · have hlt1 : (524288 : Int) < (a1.size : Int) := by omega
      go_enter Try.func4, Try.ntmps4
      go_wp2_with (go_at_call 15; refine hz.mono ?_; rintro e w' ⟨rfl, rfl⟩)
      go_ret
      exact ⟨rfl, Below.refl _ _⟩
  · have hz := zz15 a0 a1 a2 false (decide_eq_false h0) w
    go_enter Try.func4, Try.ntmps4
    go_wp2_with (go_at_call 15; refine hz.mono ?_; rintro e w' ⟨rfl, rfl⟩)
    go_ret
    exact ⟨rfl, Below.refl _ _⟩
end Go.Proofs.Qxb6602523a
