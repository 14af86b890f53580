/-
  SEAT b6602523a: traceOf, the walk.
-/
import Derived.Test.Qxb6602523aWalkG
namespace Go.Proofs.Qxb6602523a
open Go.RowKit Math

def TrPost (B : Nat) (w : World) (s : Tr) (e : Ending) (w' : World) : Prop :=
  ∃ pt ct ps cs, e = .returned (.tuple #[.slice pt s.text.length ct, .slice ps s.starts.length cs, .bool true]) ∧ OwnB B w' (.slice pt s.text.length ct) s.text ∧ OwnI B w' (.slice ps s.starts.length cs) s.starts ∧ Below B w w'

theorem TrPost.intro {B : Nat} {w w' : World} {s : Tr} {e : Ending} {T : List UInt8} {S : List Nat} {nt ns : Nat} {pt ps : Option Addr} {ct cs : Nat} (hs : s = ⟨T, S⟩) (hl : T.length = nt ∧ S.length = ns) (he : e = .returned (.tuple #[.slice pt nt ct, .slice ps ns cs, .bool true])) (h1 : OwnB B w' (.slice pt nt ct) T) (h2 : OwnI B w' (.slice ps ns cs) S) (h3 : Below B w w') : TrPost B w s e w' := by
  obtain ⟨rfl, rfl⟩ := hl
  subst hs
  exact ⟨pt, ct, ps, cs, he, h1, h2, h3⟩

theorem str_at (y : ByteArray) (j : Nat) (c : UInt8) (h : y.data.toList[j]? = some c) (W : World) : (Instr.index 9 (.string y) (.int .i64 (j : Int))).run Try.prog W = .ok (.int .u8 (c.toNat : Int)) W := by
  have hj : j < y.size := by
    have := (List.getElem?_eq_some_iff.1 h).1
    simpa using this
  rw [run_index_string W 9 y .i64 (j : Int) (by kernel_rfl), dif_pos ⟨by omega, by omega⟩]
  have e : y[(j : Int).toNat]'(by simpa using hj) = c := by
    obtain ⟨h1, h2⟩ := List.getElem?_eq_some_iff.1 h
    rw [← h2]
    simp only [Int.toNat_natCast]
    rfl
  rw [e]

set_option maxHeartbeats 1000000 in
theorem trace_any (B P F : Nat) (N : List Node) (fl : Bool) (w : World) (h : Pz B w P F N fl) (hok : OkN N) (hn : N.length ≤ 4194304) (ht : (trN N).text.length ≤ 16777216) :
    Calls Try.prog 16 #[.pointer (some ⟨P, 0, none⟩)] w fun e w' => TrPost w.heap.size w (trN N) e w' := by
  have l1 := zzLen B P F N fl w h
  have HZ : Hid (∀ W, Below w.heap.size w W → Pz B W P F N fl) := fun W hW => h.later hW
  have HK : Hid (OkN N) := hok
  have HT : Hid ((trN N).text.length ≤ 16777216) := ht
  clear h hok ht
  go_enter Try.func16, Try.ntmps16
  go_wp2_with (first | (go_at_call 9; refine l1.mono ?_; rintro e w' ⟨rfl, rfl⟩) | (go_at_call 10; refine (kind10 _).mono ?_; rintro e w' ⟨rfl, rfl⟩) | (go_at_call 11; refine (kind11 _).mono ?_; rintro e w' ⟨rfl, rfl⟩))
  clear l1
  have o1 : OwnB w.heap.size w (.slice none 0 0) [] := World.ownsRow_nil _ _ _ _
  have o2 : OwnI w.heap.size w (.slice none 0 0) [] := World.ownsRow_nil _ _ _ _
  go_loopg [8, 9, 10, 11] N.length (fun gk v8 v9 v10 v11 wr => ∃ (k nt ns : Nat) (T : List UInt8) (S : List Nat) (pt ps : Option Addr) (ct cs : Nat), k ≤ N.length ∧ N.length - k = gk ∧ v11 = .int .i64 k ∧ v10 = .bool true ∧ v8 = .slice pt nt ct ∧ v9 = .slice ps ns cs ∧ OwnB w.heap.size wr (.slice pt nt ct) T ∧ OwnI w.heap.size wr (.slice ps ns cs) S ∧ Hid (T.length = nt ∧ S.length = ns) ∧ Hid (trN (N.take k) = ⟨T, S⟩) ∧ Below w.heap.size w wr)
  case atStart => exact ⟨0, 0, 0, [], [], none, none, 0, 0, Nat.zero_le _, rfl, rfl, rfl, rfl, rfl, o1, o2, ⟨rfl, rfl⟩, rfl, Below.refl _ _⟩
  case round =>
    clear o1 o2
    obtain ⟨k, nt, ns, T, S, pt, ps, ct, cs, hk, rfl, rfl, rfl, rfl, rfl, hT, hS, HL, HR, hbel⟩ := hrel
    by_cases hkn : k < N.length
    · have hz : (k : Int) < (N.length : Int) := by omega
      obtain ⟨d, hd⟩ : ∃ d, N[k]? = some d := ⟨_, List.getElem?_eq_getElem hkn⟩
      obtain ⟨x, y⟩ := d
      have hkd := zzKind B P F N fl wr (HZ.out wr hbel) k _ hd
      have htx := zzText B P F N fl wr (HZ.out wr hbel) k _ hd
      have hst := trN_take N k _ hd
      rw [HR.out] at hst
      have hmem : (x, y) ∈ N := List.mem_of_getElem? hd
      have hns : S.length ≤ 16777216 := by
        have := trN_starts_le N k
        rw [HR.out] at this
        exact Nat.le_trans this (by omega)
      have hnt : (tr1 ⟨T, S⟩ (x, y)).text.length ≤ 16777216 := by
        have := trN_take_le N (k + 1)
        rw [hst] at this
        exact Nat.le_trans this HT.out
      rcases HK.out _ hmem with e | e
      · obtain rfl : x = 0 := e
        replace hkd : Calls Try.prog 12 #[.pointer (some ⟨P, 0, none⟩), .int .i64 0, .int .i64 k] wr fun e w' => e = .returned (.int .i64 0) ∧ wr = w' := hkd
        replace htx : Calls Try.prog 13 #[.pointer (some ⟨P, 0, none⟩), .int .i64 0, .int .i64 k] wr fun e w' => e = .returned (.string y) ∧ wr = w' := htx
        have HST : Hid (trN (N.take (k + 1)) = ⟨T ++ y.data.toList, S⟩) := hst
        have hyl : y.data.toList.length = y.size := by simp
        replace hnt : T.length + y.size ≤ 16777216 := by
          have e : (T ++ y.data.toList).length ≤ 16777216 := hnt
          rw [List.length_append, hyl] at e
          exact e
        clear hmem hst hd
        go_wp2_with (first | (go_at_call 12; refine hkd.mono ?_; rintro e w' ⟨rfl, rfl⟩) | (go_at_call 13; refine htx.mono ?_; rintro e w' ⟨rfl, rfl⟩))
        clear hkd htx
        go_loopg [8, 14] y.size (fun gk v8 v14 wr => ∃ (j nt : Nat) (pt : Option Addr) (ct : Nat), j ≤ y.size ∧ y.size - j = gk ∧ v14 = .int .i64 j ∧ v8 = .slice pt nt ct ∧ OwnB w.heap.size wr (.slice pt nt ct) (T ++ y.data.toList.take j) ∧ OwnI w.heap.size wr (.slice ps ns cs) S ∧ Hid ((T ++ y.data.toList.take j).length = nt) ∧ Below w.heap.size w wr)
        case atStart => exact ⟨0, nt, pt, ct, Nat.zero_le _, rfl, rfl, rfl, by rw [List.take_zero, List.append_nil]; exact hT, hS, by rw [List.take_zero, List.append_nil]; exact HL.out.1, hbel⟩
        case round =>
          have HNS : Hid (S.length = ns) := HL.out.2
          clear hT hS hbel HL HR
          obtain ⟨j, nt, pt, ct, hj, rfl, rfl, rfl, hT, hS, HL, hbel⟩ := hrel
          by_cases hjy : j < y.size
          · have hz : (j : Int) < (y.size : Int) := by omega
            have hz0 : (0 : Int) ≤ (j : Int) := by omega
            obtain ⟨c, hc⟩ : ∃ c, y.data.toList[j]? = some c := ⟨_, List.getElem?_eq_getElem (by rw [hyl]; exact hjy)⟩
            have hx := str_at y j c hc
            have HTK : Hid ((T ++ y.data.toList.take j) ++ [c] = T ++ y.data.toList.take (j + 1)) := by
              show _ = _
              rw [List.take_add_one, hc, List.append_assoc]
              rfl
            have hTl : (T ++ y.data.toList.take j).length ≤ 16777216 := by
              rw [List.length_append, List.length_take, hyl]
              omega
            clear hc hyl
            go_wp2_with (at_builtin; refine wpList_pushB _ rfl (.tmp 47) (.tmp 51) rfl w.heap.size _ (.slice ps ns cs) (T ++ y.data.toList.take j) S c rfl hT hS _ rfl (by simp) hTl hbel.size ?_; intro v1 w1 hT1 hS1 hb1)
            obtain ⟨pt', ct', hv⟩ := hT1.shape
            rw [List.length_append, HL.out] at hv
            subst hv
            go_roundg (y.size - (j + 1))
            case measure => go_light; omega
            case rel => exact ⟨j + 1, nt + 1, pt', ct', by omega, rfl, by go_num, rfl, by rw [← HTK.out]; exact hT1, hS1, by rw [← HTK.out, List.length_append, HL.out]; rfl, hbel.trans hb1⟩
          · have hz : ¬ (j : Int) < (y.size : Int) := by omega
            have hje : j = y.data.toList.length := by rw [hyl]; omega
            rw [hje, List.take_length] at HL hT
            clear hje hyl
            go_wp2
            go_roundg (N.length - (k + 1))
            case measure => go_light; omega
            case rel => exact ⟨k + 1, nt, ns, _, S, pt, ps, ct, cs, by omega, rfl, by go_num, rfl, rfl, rfl, hT, hS, ⟨HL.out, HNS.out⟩, HST, hbel⟩
      · obtain rfl : x = 1 := e
        replace hkd : Calls Try.prog 12 #[.pointer (some ⟨P, 0, none⟩), .int .i64 0, .int .i64 k] wr fun e w' => e = .returned (.int .i64 1) ∧ wr = w' := hkd
        have HST : Hid (trN (N.take (k + 1)) = ⟨T, S ++ [nt]⟩) := by
          show _ = _
          rw [← HL.out.1]
          exact hst
        clear hmem hst hd htx hnt
        go_wp2_with (first | (go_at_call 12; refine hkd.mono ?_; rintro e w' ⟨rfl, rfl⟩) | (at_builtin; refine wpList_pushI _ rfl (.tmp 30) (.tmp 33) rfl w.heap.size _ (.slice pt nt ct) T S nt rfl hS hT _ rfl (by simp) hns hbel.size ?_; intro v1 w1 hS1 hT1 hb1))
        obtain ⟨ps', cs', hv⟩ := hS1.shape
        rw [List.length_append, HL.out.2] at hv
        subst hv
        go_roundg (N.length - (k + 1))
        case measure => go_light; omega
        case rel => exact ⟨k + 1, nt, ns + 1, T, _, pt, ps', ct, cs', by omega, rfl, by go_num, rfl, rfl, rfl, hT1, hS1, ⟨HL.out.1, by rw [List.length_append, HL.out.2]; rfl⟩, HST, hbel.trans hb1⟩
    · have hz : ¬ (k : Int) < (N.length : Int) := by omega
      obtain rfl : k = N.length := by omega
      rw [List.take_length] at HR
      go_wp2
      go_ret3
      exact TrPost.intro HR.out HL.out rfl hT hS hbel
end Go.Proofs.Qxb6602523a
