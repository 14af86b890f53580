/-
  SEAT b6003772a: scan: the walk.
-/
import Derived.Test.Qxb6003772aWalkE
namespace Go.Proofs.Qxb6003772a
open Go.RowKit Math

/-- '[]byte("..")' of a constant: the bytes in a new block. -/
theorem const_txt (w : World) (l : List Int) (n : Nat) (hn : l.length = n) (hb : ∀ x ∈ l, 0 ≤ x ∧ x < 256) (fr : Nat × Nat) : Txt (w.alloc (.cells (l.map (Value.int .u8)).toArray 5 fr)) (some ⟨w.heap.size, 0, none⟩) n n l :=
  ⟨hn, Nat.le_refl _, hb, fun _ => ⟨_, 0, rfl, by simp, fun j hj => by
    rw [Nat.zero_add, World.cell?_alloc_mark, List.getElem?_toArray, List.getElem?_map, List.getElem?_eq_getElem (by omega), nth_eq l j (by omega)]
    rfl⟩⟩

/-- What a call of scan leaves (behind a name, so that the walk does not move its quantifiers about). -/
def ScanPost (w : World) (L : List Int) (e : Ending) (w' : World) : Prop :=
  ∃ pt nt ct pd nd cd T D, e = .returned (.tuple #[.slice pt nt ct, .slice pd nd cd]) ∧ scan L = (T, D) ∧ Txt w' pt nt ct T ∧ Dl w' pd nd cd D ∧ Below w.heap.size w w'
theorem ScanPost.intro {w : World} {L : List Int} {e : Ending} {w' : World} (pt : Option Addr) (nt ct : Nat) (pd : Option Addr) (nd cd : Nat) (T : List Int) (D : List (Nat × Bool)) (h1 : e = .returned (.tuple #[.slice pt nt ct, .slice pd nd cd])) (h2 : scan L = (T, D)) (h3 : Txt w' pt nt ct T) (h4 : Dl w' pd nd cd D) (h5 : Below w.heap.size w w') : ScanPost w L e w' :=
  ⟨pt, nt, ct, pd, nd, cd, T, D, h1, h2, h3, h4, h5⟩

set_option maxHeartbeats 8000000 in
set_option maxRecDepth 100000 in
theorem scan_any (p : Option Addr) (n c : Nat) (L : List Int) (w : World) (hn : n ≤ 8388608) (h : Txt w p n c L) :
    Calls Try.prog 20 #[.slice p n c, .slice none 0 0] w fun e w' => ScanPost w L e w' := by
  have HL : Hid (L.length = n) := h.1
  obtain ⟨i60, h60, hc60⟩ := indexByte_any 60 (by omega) p n c L w h
  obtain ⟨i62, h62, hc62⟩ := indexByte_any 62 (by omega) p n c L w h
  have H60 : Hid (((60 : Int) ∉ L ∧ i60 = -1) ∨ ((60 : Int) ∈ L ∧ 0 ≤ i60)) := h60
  have H62 : Hid (((62 : Int) ∉ L ∧ i62 = -1) ∨ ((62 : Int) ∈ L ∧ 0 ≤ i62)) := h62
  have HC60 : Hid (∀ W, Below w.heap.size w W → Calls Try.prog 25 #[.slice p n c, .int .u8 60] W fun e w' => e = .returned (.int .i64 i60) ∧ W = w') := hc60
  have HC62 : Hid (∀ W, Below w.heap.size w W → Calls Try.prog 25 #[.slice p n c, .int .u8 62] W fun e w' => e = .returned (.int .i64 i62) ∧ W = w') := hc62
  clear h60 h62 hc60 hc62
  obtain ⟨b, hb⟩ : ∃ b, Hid (List.isPrefixOf ([64, 64] : List Int) L = b) := ⟨_, rfl⟩
  have hb0 : Below w.heap.size w (w.alloc (.cells #[.int .u8 64, .int .u8 64] 5 (2, 3))) := (Below.refl _ _).alloc (Nat.le_refl _) _
  have hpref := hasPrefix_any p (some ⟨w.heap.size, 0, none⟩) n 2 c 2 L [64, 64] b (w.alloc (.cells #[.int .u8 64, .int .u8 64] 5 (2, 3))) (h.later hb0) (const_txt w [64, 64] 2 rfl (by intro x hx; simp at hx; omega) (2, 3)) hb
  have kc := fun (w : World) (C : Array Value) (n c : Nat) => Lib.run_convert_bytes_const (P := Try.prog) w 22 5 C n c Try.underlying22 Try.underlying5
  have HT : Hid (Txt w p n c L) := h
  clear h
  go_enter Try.func20, Try.ntmps20
  go_upto_if 13 with (go_at_call 24; refine hpref.mono ?_; rintro e w' ⟨rfl, rfl⟩)
  clear hpref kc
  go_cut [7, 8] from 10 to 13 (fun fr i wc => ∃ a0 i0 : Nat, fr = .int .i64 a0 ∧ i = .int .i64 i0 ∧ a0 ≤ i0 ∧ i0 ≤ n ∧ Hid (Res L [] [] a0 i0) ∧ Below w.heap.size w wc)
  case first =>
    cases b with
    | true =>
      have hr := res_at L hb.out
      have hr2 : 2 ≤ n := by rw [← HL.out]; exact hr.2
      have HR : Hid (Res L [] [] 1 2) := hr.1
      clear hr
      go_wp2
      go_meet
      case rel => exact ⟨1, 2, rfl, rfl, by omega, by omega, HR, hb0⟩
    | false =>
      have HR : Hid (Res L [] [] 0 0) := res_no L hb.out
      go_wp2
      go_meet
      case rel => exact ⟨0, 0, rfl, rfl, by omega, by omega, HR, hb0⟩
  case rest =>
    clear hb0
    obtain ⟨a0, i0, rfl, rfl, hai, hin, HR, hbel⟩ := hcut
    have hcall60 := HC60.out wc hbel
    have hcall62 := HC62.out wc hbel
    clear HC60 HC62
    go_upto_region 6 with fail
    go_cut [21] from 10 to 21 (fun t wx => wc = wx ∧ ∃ fb : Bool, t = .bool fb ∧ Hid (fb = true → (60 : Int) ∉ L ∧ (62 : Int) ∉ L))
    case first =>
      rcases H60.out with ⟨m60, rfl⟩ | ⟨m60, h60⟩
      · rcases H62.out with ⟨m62, rfl⟩ | ⟨m62, h62⟩
        · have HQ : Hid ((60 : Int) ∉ L ∧ (62 : Int) ∉ L) := ⟨m60, m62⟩
          clear m60 m62 H60 H62
          go_wp2_with (first | (go_at_call_of 25 (Value.int IntKind.u8 60); refine hcall60.mono ?_; rintro e w' ⟨rfl, rfl⟩) | (go_at_call_of 25 (Value.int IntKind.u8 62); refine hcall62.mono ?_; rintro e w' ⟨rfl, rfl⟩))
          go_meet
          case rel => exact ⟨rfl, true, rfl, fun _ => HQ.out⟩
        · have hd : decide (i62 < 0) = false := decide_eq_false (by omega)
          clear m60 m62 H60 H62
          go_wp2_with (first | (go_at_call_of 25 (Value.int IntKind.u8 60); refine hcall60.mono ?_; rintro e w' ⟨rfl, rfl⟩) | (go_at_call_of 25 (Value.int IntKind.u8 62); refine hcall62.mono ?_; rintro e w' ⟨rfl, rfl⟩))
          go_meet
          case rel => exact ⟨rfl, false, rfl, fun e => by cases e⟩
      · have hd : decide (i60 < 0) = false := decide_eq_false (by omega)
        clear m60 H60 H62
        go_wp2_with (go_at_call_of 25 (Value.int IntKind.u8 60); refine hcall60.mono ?_; rintro e w' ⟨rfl, rfl⟩)
        go_meet
        case rel => exact ⟨rfl, false, rfl, fun e => by cases e⟩
    case rest =>
      clear hcall60 hcall62 H60 H62
      obtain ⟨rfl, fb, rfl, HFB⟩ := hcut
      cases fb with
      | true =>
        have hbare := res_bare HR.out hai (HFB.out rfl).1 (HFB.out rfl).2
        obtain ⟨p', hsl, ht, _⟩ := slice_from (HT.out.later hbel) a0 (by omega)
        have HX : Hid (scan L = (L.drop a0, []) ∧ Txt wc p' (n - a0) (c - a0) (L.drop a0)) := ⟨hbare, ht⟩
        clear hbare ht HR HFB
        go_wp2
        go_ret2
        exact ScanPost.intro p' (n - a0) (c - a0) none 0 0 _ _ rfl HX.out.1 HX.out.2 ⟨rfl, Nat.le_refl _, fun h => absurd h (Nat.lt_irrefl _)⟩ hbel
      | false =>
        clear HFB
        go_wp2
        have hownT : OwnB w.heap.size wc (.slice none 0 0) [] := World.ownsRow_nil _ _ _ _
        have hownD : OwnD w.heap.size wc (.slice none 0 0) [] := World.ownsRow_nil _ _ _ _
        go_loopg [1, 6, 7, 8] (n - i0) (fun gk vd vt fr i wr => ∃ (k a nt nd : Nat) (pt pd : Option Addr) (ct cd : Nat) (T : List Int) (D : List (Nat × Bool)), k ≤ n ∧ n - k = gk ∧ i = .int .i64 k ∧ fr = .int .i64 a ∧ a ≤ k ∧ vt = .slice pt nt ct ∧ vd = .slice pd nd cd ∧ OwnB w.heap.size wr (.slice pt nt ct) T ∧ OwnD w.heap.size wr (.slice pd nd cd) D ∧ Hid (T.length = nt ∧ D.length = nd) ∧ nt ≤ a ∧ nd ≤ k ∧ Hid (nt = 0 → pt = none) ∧ Hid (∀ x ∈ T, 0 ≤ x ∧ x < 256) ∧ Hid (Res L T D a k) ∧ Below w.heap.size w wr)
        case atStart => exact ⟨i0, a0, 0, 0, none, none, 0, 0, [], [], hin, rfl, rfl, rfl, hai, rfl, rfl, hownT, hownD, ⟨rfl, rfl⟩, Nat.zero_le _, Nat.zero_le _, fun _ => rfl, fun x hx => (by cases hx), HR, hbel⟩
        case round =>
          clear hownT hownD HR hbel hai hin
          obtain ⟨k, a, nt, nd, pt, pd, ct, cd, T, D, hkn, rfl, rfl, rfl, hak, rfl, rfl, hT, hD, HTD, hnt, hnd, HPN, HBT, HR, hbel⟩ := hrel
          by_cases hk1 : k + 1 < n
          · obtain ⟨b', o', rfl, hlt, hcs⟩ := HT.out.at k (by omega)
            have hz1 : (k : Int) + 1 < (n : Int) := by omega
            have HCX : Hid (∀ W : World, Below w.heap.size w W → ∀ j, j < n → W.cell? ⟨b', o' + j, none⟩ = some (.int .u8 (nth L j))) := fun W hW j hj => by rw [hW.cell (p := ⟨b', o' + j, none⟩) hlt]; exact hcs j hj
            have g0 := HCX.out wr hbel k (by omega)
            have g1 := HCX.out wr hbel (k + 1) hk1
            obtain ⟨x, hx⟩ : ∃ x, nth L k = x := ⟨_, rfl⟩
            obtain ⟨y, hy⟩ : ∃ y, nth L (k + 1) = y := ⟨_, rfl⟩
            rw [hx] at g0
            rw [hy] at g1
            clear hcs
            cases hp : pair x y with
            | true =>
              have HR2 : Hid (Res L T (D ++ [(nt + (k - a), (x == 60))]) a (k + 1)) := by
                have := res_pair HR.out hak (by rw [HL.out]; exact hk1) (by rw [hx, hy]; exact hp)
                rw [HTD.out.1, hx] at this
                exact this
              have HP : Hid (pair x y = true) := hp
              have hdl : D.length ≤ 16777216 := by rw [HTD.out.2]; omega
              clear hp hx hy HR HCX
              go_wp2_with (first | (go_at_call 26; refine (isDelim_eq _ _ true _ HP).mono ?_; rintro e w' ⟨rfl, rfl⟩) | (at_builtin; refine wpList_pushD _ rfl (.tmp 45) (.tmp 55) rfl w.heap.size _ (.slice pt nt ct) D T (nt + (k - a)) _ (by omega) (x == 60) rfl hD hT _ rfl (by simp) hdl hbel.size ?_; intro vd w1 hD1 hT1 hb1))
              obtain ⟨pd', cd', hv⟩ := hD1.shape
              rw [List.length_append, HTD.out.2] at hv
              subst hv
              go_roundg (n - (k + 1))
              case measure => go_light; omega
              case rel => exact ⟨k + 1, a, nt, nd + 1, pt, pd', ct, cd', T, _, by omega, rfl, by go_num, rfl, by omega, rfl, rfl, hT1, hD1, ⟨HTD.out.1, by rw [List.length_append, HTD.out.2]; rfl⟩, hnt, by omega, HPN, HBT, HR2, hbel.trans hb1⟩
            | false =>
              have HP : Hid (pair x y = false) := hp
              by_cases h64 : x = 64
              · have e64 : (x == 64) = true := beq_iff_eq.2 h64
                by_cases hk2 : k + 2 < n
                · have hz2 : (k : Int) + 2 < (n : Int) := by omega
                  have g2 := HCX.out wr hbel (k + 2) hk2
                  obtain ⟨z, hzz⟩ : ∃ z, nth L (k + 2) = z := ⟨_, rfl⟩
                  rw [hzz] at g2
                  cases hp2 : pair y z with
                  | true =>
                    have HR2 : Hid (Res L (T ++ (L.drop a).take (k - a)) D (k + 1) (k + 3)) := res_esc HR.out hak (by rw [HL.out]; exact hk2) (hx.trans h64) (by rw [hy, hzz]; exact hp2)
                    have HP2 : Hid (pair y z = true) := hp2
                    obtain ⟨p2, hsl, htx, hsome⟩ := slice_mid (HT.out.later hbel) a k hak (by omega)
                    obtain ⟨ad, rfl⟩ := Option.isSome_iff_exists.1 (hsome rfl)
                    have HS : Hid (Txt wr (some ad) (k - a) (c - a) ((L.drop a).take (k - a))) := htx
                    have htl : T.length + (k - a) ≤ 16777216 := by rw [HTD.out.1]; omega
                    clear hp hp2 hx hy hzz HR HCX h64 htx hsome
                    go_wp2_with (go_at_call 26; refine (isDelim_eq _ _ false _ HP).mono ?_; rintro e w' ⟨rfl, rfl⟩)
                    go_quiet ((go_at_call 26; exact Calls.quiet_of_same (isDelim_any _ _ true _ HP2)))
                    have hdr : Below wr.heap.size wr (wr.drewN nq) := ⟨rfl, rfl, rfl, Nat.le_refl _, fun _ _ => rfl⟩
                    have hT1 := hT.below hdr
                    have hD1 := hD.below hdr
                    have HS1 := HS.out.later hdr
                    have hbel1 : Below w.heap.size w (wr.drewN nq) := hbel.trans (hdr.mono hbel.size)
                    clear hT hD HS hbel hdr g0 g1 g2
                    generalize wr.drewN nq = wr at hT1 hD1 HS1 hbel1 ⊢
                    go_wp2_with (at_builtin; refine wpList_pushS _ rfl (.tmp 80) (.tmp 84) rfl w.heap.size (.slice pt nt ct) (.slice pd nd cd) T ((L.drop a).take (k - a)) D rfl hT1 hD1 ad (k - a) (c - a) rfl HS1 htl hbel1.size ?_; intro vt w1 hT2 hD2 hb2 hnil)
                    have HSL : Hid (((L.drop a).take (k - a)).length = k - a) := HS1.1
                    obtain ⟨pt', ct', hv⟩ := hT2.shape
                    rw [List.length_append, HTD.out.1, HSL.out] at hv
                    subst hv
                    have HNIL : Hid (nt + (k - a) = 0 → pt' = none) := fun h0 => by
                      have hp0 := HPN.out (by omega)
                      subst hp0
                      have hc0 : ct = 0 := by
                        rcases hT1.2 with ⟨hv, _⟩ | ⟨g, cap, cur, hv, _⟩
                        · cases hv; rfl
                        · cases hv
                      have := hnil.2 ⟨by rw [hc0, show nt = 0 from by omega], by omega⟩
                      exact (Value.slice.inj this).1
                    clear hnil HS1 hT1 hD1
                    go_roundg (n - (k + 3))
                    case measure => go_light; omega
                    case rel => exact ⟨k + 3, k + 1, nt + (k - a), nd, pt', pd, ct', cd, _, D, by omega, rfl, by go_num, by go_num, by omega, rfl, rfl, hT2, hD2, ⟨by rw [List.length_append, HTD.out.1, HSL.out], HTD.out.2⟩, by omega, by omega, HNIL, fun x hx => (List.mem_append.1 hx).elim (HBT.out x) (fun h => HT.out.2.2.1 x (mem_drop (mem_take h))), HR2, hbel1.trans hb2⟩
                  | false =>
                    have HR2 : Hid (Res L T D a (k + 1)) := res_plain HR.out hak (by rw [HL.out]; exact hk1) (by rw [hx, hy]; exact hp) (fun _ _ => by rw [hy, hzz]; exact hp2)
                    have HP2 : Hid (pair y z = false) := hp2
                    clear hp hp2 hx hy hzz HR HCX h64
                    go_wp2_with (go_at_call 26; refine (isDelim_eq _ _ false _ HP).mono ?_; rintro e w' ⟨rfl, rfl⟩)
                    go_quiet ((go_at_call 26; exact Calls.quiet_of_same (isDelim_any _ _ false _ HP2)))
                    have hdr : Below wr.heap.size wr (wr.drewN nq) := ⟨rfl, rfl, rfl, Nat.le_refl _, fun _ _ => rfl⟩
                    go_wp2
                    go_roundg (n - (k + 1))
                    case measure => go_light; omega
                    case rel => exact ⟨k + 1, a, nt, nd, pt, pd, ct, cd, T, D, by omega, rfl, by go_num, rfl, by omega, rfl, rfl, hT.below hdr, hD.below hdr, HTD, hnt, by omega, HPN, HBT, HR2, hbel.trans (hdr.mono hbel.size)⟩
                · have hd2 : decide ((k : Int) + 2 < (n : Int)) = false := decide_eq_false (by omega)
                  have HR2 : Hid (Res L T D a (k + 1)) := res_plain HR.out hak (by rw [HL.out]; exact hk1) (by rw [hx, hy]; exact hp) (fun _ h => absurd h (by rw [HL.out]; exact hk2))
                  clear hp hx hy HR HCX h64
                  go_wp2_with (go_at_call 26; refine (isDelim_eq _ _ false _ HP).mono ?_; rintro e w' ⟨rfl, rfl⟩)
                  go_quiet (fail)
                  have hdr : Below wr.heap.size wr (wr.drewN nq) := ⟨rfl, rfl, rfl, Nat.le_refl _, fun _ _ => rfl⟩
                  go_wp2
                  go_roundg (n - (k + 1))
                  case measure => go_light; omega
                  case rel => exact ⟨k + 1, a, nt, nd, pt, pd, ct, cd, T, D, by omega, rfl, by go_num, rfl, by omega, rfl, rfl, hT.below hdr, hD.below hdr, HTD, hnt, by omega, HPN, HBT, HR2, hbel.trans (hdr.mono hbel.size)⟩
              · have e64 : (x == 64) = false := beq_eq_false_iff_ne.2 h64
                have HR2 : Hid (Res L T D a (k + 1)) := res_plain HR.out hak (by rw [HL.out]; exact hk1) (by rw [hx, hy]; exact hp) (fun e _ => absurd (hx.symm.trans e) h64)
                clear hp hx hy HR HCX h64
                go_wp2_with (go_at_call 26; refine (isDelim_eq _ _ false _ HP).mono ?_; rintro e w' ⟨rfl, rfl⟩)
                go_quiet (fail)
                have hdr : Below wr.heap.size wr (wr.drewN nq) := ⟨rfl, rfl, rfl, Nat.le_refl _, fun _ _ => rfl⟩
                go_wp2
                go_roundg (n - (k + 1))
                case measure => go_light; omega
                case rel => exact ⟨k + 1, a, nt, nd, pt, pd, ct, cd, T, D, by omega, rfl, by go_num, rfl, by omega, rfl, rfl, hT.below hdr, hD.below hdr, HTD, hnt, by omega, HPN, HBT, HR2, hbel.trans (hdr.mono hbel.size)⟩
          · have hend := res_end HR.out hak (by rw [HL.out]; exact hkn) (by rw [HL.out]; omega)
            have HEND : Hid (scan L = (T ++ L.drop a, D)) := hend
            have q22 : ∀ (w : World) (a : Option Addr) (n c n' c' : Nat), (binOp .eql 22 (.slice a n c) (.slice none n' c')).run Try.prog w = .ok (.bool a.isNone) w := fun w a n c n' c' => Lib.run_eql_slice_nil w _ _ a n c n' c' Try.underlying22
            obtain ⟨p2, hsl, htx, hsome⟩ := slice_from (HT.out.later hbel) a (by omega)
            clear hend HR
            cases pt with
            | none =>
              obtain rfl := hT.nil
              have HX : Hid (Txt wr p2 (n - a) (c - a) (L.drop a)) := htx
              clear htx hsome
              go_wp2
              go_ret2
              exact ScanPost.intro p2 (n - a) (c - a) pd nd cd _ _ rfl HEND.out HX.out hD.dl hbel
            | some at0 =>
              have hnt0 : 0 < nt := by
                rcases Nat.eq_zero_or_pos nt with h0 | h0
                · have := HPN.out h0; cases this
                · exact h0
              obtain ⟨b', o', rfl, hlt, hcs⟩ := HT.out.at 0 (by omega)
              obtain ⟨ad, rfl⟩ := Option.isSome_iff_exists.1 (hsome rfl)
              have HX : Hid (Txt wr (some ad) (n - a) (c - a) (L.drop a)) := htx
              have htl : T.length + (n - a) ≤ 16777216 := by rw [HTD.out.1]; omega
              clear htx hsome hcs
              go_wp2_with (at_builtin; refine wpList_pushS _ rfl (.tmp 96) (.tmp 99) rfl w.heap.size _ (.slice pd nd cd) T (L.drop a) D rfl hT hD ad (n - a) (c - a) rfl HX.out htl hbel.size ?_; intro vt w1 hT2 hD2 hb2 hnil)
              obtain ⟨pt', ct', hv⟩ := hT2.shape
              subst hv
              have hfin := hT2.txt (fun x hx => (List.mem_append.1 hx).elim (HBT.out x) (fun h => HT.out.2.2.1 x (mem_drop h)))
              go_ret2
              exact ScanPost.intro pt' _ ct' pd nd cd _ _ rfl HEND.out hfin hD2.dl (hbel.trans hb2)
end Go.Proofs.Qxb6003772a
