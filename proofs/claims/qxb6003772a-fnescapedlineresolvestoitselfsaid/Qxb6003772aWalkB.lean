/-
  SEAT b6003772a: zzEscape computes 'escAt'.
-/
import Derived.Test.Qxb6003772aWalkA
namespace Go.Proofs.Qxb6003772a
open Go.RowKit Math

/-- A slice of bytes that the call itself builds, spelling l. -/
def OwnB (B : Nat) (w : World) (v : Value) (l : List Int) : Prop := w.ownsRow B 5 1 v l.length (l.map (Value.int .u8))

theorem OwnB.below {B : Nat} {w w' : World} {v : Value} {l : List Int} (h : OwnB B w v l) (hb : Below w.heap.size w w') : OwnB B w' v l :=
  World.ownsRow.kept h (row := none) ⟨hb.os, hb.tape, hb.output, hb.size, fun k hk _ => hb.block k hk⟩ (by cases hv : v.ownBlock <;> simp)

theorem OwnB.shape {B : Nat} {w : World} {v : Value} {l : List Int} (h : OwnB B w v l) : ∃ p c, v = .slice p l.length c := by
  rcases h.2 with ⟨hv, hn⟩ | ⟨g, cap, cur, hv, _⟩
  · exact ⟨none, 0, by rw [hv, hn]⟩
  · exact ⟨_, cap, hv⟩

theorem OwnB.txt {B : Nat} {w : World} {p : Option Addr} {n c : Nat} {l : List Int} (h : OwnB B w (.slice p n c) l) (hb : ∀ x ∈ l, 0 ≤ x ∧ x < 256) : Txt w p n c l := by
  rcases h.2 with ⟨hv, hn⟩ | ⟨g, cap, cur, hv, hg, hh, hc, hm, hs, ht⟩
  · cases hv
    exact ⟨hn, Nat.le_refl _, hb, fun h => absurd h (Nat.lt_irrefl _)⟩
  · cases hv
    refine ⟨rfl, hc, hb, fun _ => ⟨g, 0, rfl, (Array.getElem?_eq_some_iff.1 hh).1, fun j hj => ?_⟩⟩
    have := World.ownsRow.cellAt (base := B) (e := 5) (size := 1) h j (by omega)
    rw [Nat.zero_add, this, List.getElem?_map, List.getElem?_eq_getElem hj, nth_eq l j hj]
    rfl

theorem one_cell (k : IntKind) (x : Int) : ∀ u ∈ [Value.int k x], u.oneCell' = true := by
  intro u hu
  simp at hu
  subst hu
  rfl

/-- 'out = append(out, y)', the byte y laid in a new block of its own. -/
theorem wpList_push {ops : Array Oper} {rest : List Oper} {o : Oper} {a : Act} {Q : Exit → Act → World → Prop} (w : World) (hgd : o.guard = none) (s x : Operand)
    (ho : o.op = .call { callee := .builtin .append, args := #[s, x], argTypes := #[22, 22] })
    (B : Nat) (v : Value) (l : List Int) (y : Int) (hs : a.eval s = v) (hown : OwnB B w v l) (g : Nat) (hx : a.eval x = .slice (some ⟨g, 0, none⟩) 1 1) (hg : g = w.heap.size) (hlen : l.length ≤ 16777216) (hB : B ≤ w.heap.size)
    (h : ∀ v' w', OwnB B w' v' (l ++ [y]) → Below B w w' → wpList Try.prog ops Q rest (a.put o.dst v') w') : wpList Try.prog ops Q (o :: rest) a (w.alloc (.cells #[.int .u8 y] 5)) := by
  subst hg
  obtain ⟨i0, hi, hz0, hz1, hz2⟩ := info_parts info5
  refine wpList_append_own _ hgd s x 22 ho B 5 i0 (.int .u8 0) 1 1 Try.underlying22 hi hz0 hz1 hz2 rfl (by decide) v l.length (l.map (Value.int .u8)) hs (World.ownsRow.alloc hown _) ⟨w.heap.size, 0, none⟩ 1 1 [.int .u8 y] hx rfl ?_ (one_cell _ _) ?_ ?_ ?_ ?_
  · intro j u hj
    match j, hj with
    | 0, hj => simp at hj; subst hj; simp [Addr.add]
  · unfold maxLen; omega
  · omega
  · simp; omega
  · intro v' w' h1 h2 _
    refine h v' w' ?_ ?_
    · unfold OwnB
      rw [List.length_append, List.map_append]
      exact h1
    · exact ((Below.refl B w).alloc hB _).grown h2 (by simp; omega) (fun k hk => (hown.lt k hk).1)

set_option maxHeartbeats 400000 in
theorem isPair_any (x y : Int) (b : Bool) (w : World) (h : Hid (pair x y = b)) : Calls Try.prog 19 #[.int .u8 x, .int .u8 y] w fun e w' => e = .returned (.bool b) ∧ w' = w := by
  by_cases hxy : x = y
  · subst hxy
    have e1 : (x == x) = true := beq_self_eq_true x
    by_cases h60 : x = 60
    · have e2 : (x == 60) = true := beq_iff_eq.2 h60
      have hb : true = b := by rw [← h.out]; exact (pair_iff.2 ⟨rfl, .inl h60⟩).symm
      subst hb
      clear h60 h
      go_enter Try.func19, Try.ntmps19
      go_wp2
      go_ret
      exact ⟨rfl, rfl⟩
    · have e2 : (x == 60) = false := beq_eq_false_iff_ne.2 h60
      by_cases h62 : x = 62
      · have e3 : (x == 62) = true := beq_iff_eq.2 h62
        have hb : true = b := by rw [← h.out]; exact (pair_iff.2 ⟨rfl, .inr h62⟩).symm
        subst hb
        clear h60 h62 h
        go_enter Try.func19, Try.ntmps19
        go_wp2
        go_ret
        exact ⟨rfl, rfl⟩
      · have e3 : (x == 62) = false := beq_eq_false_iff_ne.2 h62
        have hb : false = b := by
          rw [← h.out]
          cases hp : pair x x with
          | false => rfl
          | true => have := (pair_iff.1 hp).2; omega
        subst hb
        clear h60 h62 h
        go_enter Try.func19, Try.ntmps19
        go_wp2
        go_ret
        exact ⟨rfl, rfl⟩
  · have e1 : (x == y) = false := beq_eq_false_iff_ne.2 hxy
    have hb : false = b := by rw [← h.out]; exact (pair_no hxy).symm
    subst hb
    clear hxy h
    go_enter Try.func19, Try.ntmps19
    go_wp2
    go_ret
    exact ⟨rfl, rfl⟩

/-! ### What a round of the escaping does -/
theorem esc_step_pair (l : List Int) (k : Nat) (h : k + 1 < l.length) (hp : pair (nth l k) (nth l (k + 1)) = true) : esc (l.drop k) = 64 :: nth l k :: nth l (k + 1) :: esc (l.drop (k + 2)) := by
  rw [List.drop_eq_getElem_cons (by omega), List.drop_eq_getElem_cons (by omega), nth_eq l k, nth_eq l (k + 1)]
  exact esc_pair _ hp
theorem esc_step_plain (l : List Int) (k : Nat) (h : k + 1 < l.length) (hp : pair (nth l k) (nth l (k + 1)) = false) : esc (l.drop k) = nth l k :: esc (l.drop (k + 1)) := by
  rw [List.drop_eq_getElem_cons (by omega), List.drop_eq_getElem_cons (by omega), nth_eq l k, nth_eq l (k + 1)]
  exact esc_plain _ hp
theorem esc_step_last (l : List Int) (k : Nat) (h : k + 1 = l.length) : esc (l.drop k) = nth l k :: esc (l.drop (k + 1)) := by
  rw [List.drop_eq_getElem_cons (by omega), nth_eq l k, List.drop_of_length_le (by omega)]
  rfl


theorem esc_bytes (t : List Int) (h : ∀ x ∈ t, 0 ≤ x ∧ x < 256) : ∀ x ∈ esc t, 0 ≤ x ∧ x < 256 := by
  match t with
  | [] => intro x hx; cases hx
  | [y] => exact h
  | y :: z :: r =>
    have hr := esc_bytes r (fun x hx => h x (by simp [hx]))
    have hzr := esc_bytes (z :: r) (fun x hx => h x (List.mem_cons_of_mem _ hx))
    intro x hx
    cases hp : pair y z with
    | true =>
      rw [esc_pair r hp] at hx
      rcases List.mem_cons.1 hx with rfl | hx
      · exact ⟨by decide, by decide⟩
      · rcases List.mem_cons.1 hx with rfl | hx
        · exact h _ (by simp)
        · rcases List.mem_cons.1 hx with rfl | hx
          · exact h _ (by simp)
          · exact hr x hx
    | false =>
      rw [esc_plain r hp] at hx
      rcases List.mem_cons.1 hx with rfl | hx
      · exact h _ (by simp)
      · exact hzr x hx

theorem escAt_bytes (b : Bool) (t : List Int) (h : ∀ x ∈ t, 0 ≤ x ∧ x < 256) : ∀ x ∈ escAt b t, 0 ≤ x ∧ x < 256 := by
  intro x hx
  unfold escAt at hx
  rcases List.mem_append.1 hx with hx | hx
  · split at hx
    · rw [List.mem_singleton.1 hx]; exact ⟨by decide, by decide⟩
    · cases hx
  · exact esc_bytes t h x hx

theorem head_nth (l : List Int) (h : 0 < l.length) : l.head? = some (nth l 0) := by
  match l, h with
  | x :: l, _ => rfl

theorem escAt_false (l : List Int) : ([] : List Int) ++ esc l = escAt false l := by unfold escAt; rw [if_neg (fun h => by cases h.1)]
theorem escAt_no (l : List Int) (h : 0 < l.length) (hx : nth l 0 ≠ 64) : ([] : List Int) ++ esc l = escAt true l := by unfold escAt; rw [head_nth l h, if_neg (fun e => hx (Option.some.inj e.2))]
theorem escAt_yes (l : List Int) (h : 0 < l.length) (hx : nth l 0 = 64) : ([64] : List Int) ++ esc l = escAt true l := by unfold escAt; rw [head_nth l h, if_pos ⟨rfl, by rw [hx]⟩]

set_option maxHeartbeats 4000000 in
theorem escape_pos (p : Option Addr) (n c : Nat) (l : List Int) (b : Bool) (w : World) (hn0 : 0 < n) (hn : n ≤ 1048576) (h : Txt w p n c l) :
    Calls Try.prog 9 #[.slice p n c, .bool b] w fun e w' => ∃ p' n' c', e = .returned (.slice p' n' c') ∧ Txt w' p' n' c' (escAt b l) ∧ Below w.heap.size w w' := by
  have HL : Hid (l.length = n) := h.1
  have HB : Hid (∀ x ∈ l, 0 ≤ x ∧ x < 256) := h.2.2.1
  have HL0 : Hid (0 < l.length) := by show 0 < l.length; rw [h.1]; exact hn0
  obtain ⟨b', o', hpe, hlt, hcs⟩ := h.at 0 hn0
  subst hpe
  have HCS : Hid (∀ j, j < n → w.cell? ⟨b', o' + j, none⟩ = some (.int .u8 (nth l j))) := hcs
  clear hcs h
  have hown : OwnB w.heap.size (w.alloc (.cells #[] 5)) (.slice (some ⟨w.heap.size, 0, none⟩) 0 0) [] := World.ownsRow_lit w #[] 0 (Nat.le_refl _) (Nat.zero_le _) rfl
  have hbel : Below w.heap.size w (w.alloc (.cells #[] 5)) := (Below.refl _ _).alloc (Nat.le_refl _) _
  cases b with
  | false =>
    go_enter Try.func9, Try.ntmps9
    go_wp2
    go_loopg [5, 6] n (fun gk v j wr => ∃ (k : Nat) (out : List Int), k ≤ n ∧ n - k = gk ∧ j = .int .i64 k ∧ OwnB w.heap.size wr v out ∧ Hid (([] : List Int) ++ esc l = out ++ esc (l.drop k)) ∧ out.length ≤ 2 * k + 1 ∧ Below w.heap.size w wr)
    case atStart => exact ⟨0, ([] : List Int), Nat.zero_le _, rfl, rfl, hown, rfl, by simp, hbel⟩
    case round =>
      clear hown hbel
      obtain ⟨k, out, hk, rfl, rfl, hown, HE, hol, hbel⟩ := hrel
      by_cases hkn : k < n
      · have hcs := HCS.out
        have hz : (k : Int) < (n : Int) := by omega
        have g0 : wr.cell? ⟨b', o' + k, none⟩ = some (.int .u8 (nth l k)) := by rw [hbel.cell (p := ⟨b', o' + k, none⟩) hlt]; exact hcs k hkn
        by_cases hk1 : k + 1 < n
        · have hz1 : (k : Int) + 1 < (n : Int) := by omega
          have g1 : wr.cell? ⟨b', o' + (k + 1), none⟩ = some (.int .u8 (nth l (k + 1))) := by rw [hbel.cell (p := ⟨b', o' + (k + 1), none⟩) hlt]; exact hcs (k + 1) hk1
          obtain ⟨x, hx⟩ : ∃ x, nth l k = x := ⟨_, rfl⟩
          obtain ⟨y, hy⟩ : ∃ y, nth l (k + 1) = y := ⟨_, rfl⟩
          cases hp : pair x y with
          | true =>
            have HE2 : Hid (([] : List Int) ++ esc l = (((out ++ [64]) ++ [x]) ++ [y]) ++ esc (l.drop (k + 2))) := by
              have := HE.out
              rw [esc_step_pair l k (by rw [HL.out]; exact hk1) (by rw [hx, hy]; exact hp), hx, hy] at this
              rw [List.append_assoc, List.append_assoc, List.append_assoc]
              exact this
            have HP : Hid (pair x y = true) := hp
            have h0 : ∀ W : World, Below wr.heap.size wr W → W.cell? ⟨b', o' + k, none⟩ = some (.int .u8 x) := fun W hW => by rw [hW.cell (p := ⟨b', o' + k, none⟩) (Nat.lt_of_lt_of_le hlt hbel.size), g0, hx]
            have HC0 : Hid (∀ W : World, Below w.heap.size w W → W.cell? ⟨b', o' + k, none⟩ = some (.int .u8 x)) := fun W hW => by rw [hW.cell (p := ⟨b', o' + k, none⟩) hlt, hcs k hkn, hx]
            have HC1 : Hid (∀ W : World, Below w.heap.size w W → W.cell? ⟨b', o' + (k + 1), none⟩ = some (.int .u8 y)) := fun W hW => by rw [hW.cell (p := ⟨b', o' + (k + 1), none⟩) hlt, hcs (k + 1) hk1, hy]
            rw [hx] at g0
            rw [hy] at g1
            clear hcs HE hp h0 hx hy
            go_wp2
            go_quiet ((go_at_call 19; exact Calls.quiet_of_same (isPair_any _ _ true _ HP)))
            have hown1 : OwnB w.heap.size (wr.drewN nq) u5 out := hown
            have hbel1 : Below w.heap.size w (wr.drewN nq) := hbel.trans ⟨rfl, rfl, rfl, Nat.le_refl _, fun _ _ => rfl⟩
            clear hown hbel g0 g1
            generalize wr.drewN nq = wr at hown1 hbel1 ⊢
            go_wp2_with (first | (at_builtin; refine wpList_push _ rfl (.tmp 44) (.tmp 45) rfl w.heap.size _ out 64 rfl hown1 _ rfl (by simp) (by omega) hbel1.size ?_; intro v1 w1 hown2 hb2; have hbel2 := hbel1.trans hb2; have c1 := HC0.out w1 hbel2) | (at_builtin; refine wpList_push _ rfl (.tmp 47) (.tmp 52) rfl w.heap.size _ (out ++ [64]) x rfl hown2 _ rfl (by simp) (by simp; omega) hbel2.size ?_; intro v2 w2 hown3 hb3; have hbel3 := hbel2.trans hb3; have c2 := HC1.out w2 hbel3) | (at_builtin; refine wpList_push _ rfl (.tmp 54) (.tmp 60) rfl w.heap.size _ ((out ++ [64]) ++ [x]) y rfl hown3 _ rfl (by simp) (by simp; omega) hbel3.size ?_; intro v3 w3 hown4 hb4; have hbel4 := hbel3.trans hb4))
            go_roundg (n - (k + 2))
            case measure => go_light; omega
            case rel => exact ⟨k + 2, _, by omega, rfl, by go_num, hown4, HE2, by simp; omega, hbel4⟩
          | false =>
            have HE2 : Hid (([] : List Int) ++ esc l = (out ++ [x]) ++ esc (l.drop (k + 1))) := by
              have := HE.out
              rw [esc_step_plain l k (by rw [HL.out]; exact hk1) (by rw [hx, hy]; exact hp), hx] at this
              rw [List.append_assoc]
              exact this
            have HP : Hid (pair x y = false) := hp
            have HC0 : Hid (∀ W : World, Below w.heap.size w W → W.cell? ⟨b', o' + k, none⟩ = some (.int .u8 x)) := fun W hW => by rw [hW.cell (p := ⟨b', o' + k, none⟩) hlt, hcs k hkn, hx]
            rw [hx] at g0
            rw [hy] at g1
            clear hcs HE hp hx hy
            go_wp2
            go_quiet ((go_at_call 19; exact Calls.quiet_of_same (isPair_any _ _ false _ HP)))
            have hown1 : OwnB w.heap.size (wr.drewN nq) u5 out := hown
            have hbel1 : Below w.heap.size w (wr.drewN nq) := hbel.trans ⟨rfl, rfl, rfl, Nat.le_refl _, fun _ _ => rfl⟩
            clear hown hbel g0 g1
            generalize wr.drewN nq = wr at hown1 hbel1 ⊢
            have c0 := HC0.out wr hbel1
            go_wp2_with (at_builtin; refine wpList_push _ rfl (.tmp 64) (.tmp 69) rfl w.heap.size _ out x rfl hown1 _ rfl (by simp) (by omega) hbel1.size ?_; intro v1 w1 hown2 hb2; have hbel2 := hbel1.trans hb2)
            go_roundg (n - (k + 1))
            case measure => go_light; omega
            case rel => exact ⟨k + 1, _, by omega, rfl, by go_num, hown2, HE2, by simp; omega, hbel2⟩
        · have hd : decide ((k : Int) + 1 < (n : Int)) = false := decide_eq_false (by omega)
          obtain ⟨x, hx⟩ : ∃ x, nth l k = x := ⟨_, rfl⟩
          have HE2 : Hid (([] : List Int) ++ esc l = (out ++ [x]) ++ esc (l.drop (k + 1))) := by
            have := HE.out
            rw [esc_step_last l k (by rw [HL.out]; omega), hx] at this
            rw [List.append_assoc]
            exact this
          have HC0 : Hid (∀ W : World, Below w.heap.size w W → W.cell? ⟨b', o' + k, none⟩ = some (.int .u8 x)) := fun W hW => by rw [hW.cell (p := ⟨b', o' + k, none⟩) hlt, hcs k hkn, hx]
          clear hcs HE hx g0
          go_wp2
          go_quiet (fail)
          have hown1 : OwnB w.heap.size (wr.drewN nq) u5 out := hown
          have hbel1 : Below w.heap.size w (wr.drewN nq) := hbel.trans ⟨rfl, rfl, rfl, Nat.le_refl _, fun _ _ => rfl⟩
          clear hown hbel
          generalize wr.drewN nq = wr at hown1 hbel1 ⊢
          have c0 := HC0.out wr hbel1
          go_wp2_with (at_builtin; refine wpList_push _ rfl (.tmp 64) (.tmp 69) rfl w.heap.size _ out x rfl hown1 _ rfl (by simp) (by omega) hbel1.size ?_; intro v1 w1 hown2 hb2; have hbel2 := hbel1.trans hb2)
          go_roundg (n - (k + 1))
          case measure => go_light; omega
          case rel => exact ⟨k + 1, _, by omega, rfl, by go_num, hown2, HE2, by simp; omega, hbel2⟩
      · have : k = n := by omega
        subst this
        obtain ⟨p', c', rfl⟩ := hown.shape
        have hfin : out = escAt false l := by
          have := HE.out
          rw [List.drop_of_length_le (by rw [HL.out]; exact Nat.le_refl _), show esc [] = [] from rfl, List.append_nil] at this
          rw [← this]
          exact escAt_false l
        have htx : Txt wr p' out.length c' (escAt false l) := by rw [← hfin]; exact hown.txt (fun x hx => escAt_bytes false l HB.out x (by rw [← hfin]; exact hx))
        clear HE hown hfin
        go_wp2
        go_ret
        exact ⟨p', _, c', rfl, htx, hbel⟩
  | true =>
    have hz0 : (0 : Int) < (n : Int) := by omega
    have g00 := HCS.out 0 hn0
    rw [Nat.add_zero] at g00
    by_cases h64 : nth l 0 = 64
    · have e64 : (nth l 0 == 64) = true := beq_iff_eq.2 h64
      have H64 : Hid (nth l 0 = 64) := h64
      clear h64
      go_enter Try.func9, Try.ntmps9
      go_wp2_with (at_builtin; refine wpList_push _ rfl (.tmp 20) (.tmp 21) rfl w.heap.size _ [] 64 rfl hown _ rfl (by simp) (by simp) hbel.size ?_; intro v0 w0 hown0 hb0; have hbel0 := hbel.trans hb0)
      clear hown hbel
      have hown : OwnB w.heap.size w0 v0 ([64] : List Int) := hown0
      have hbel := hbel0
      clear hown0 hbel0 e64 g00 hb0
      go_loopg [5, 6] n (fun gk v j wr => ∃ (k : Nat) (out : List Int), k ≤ n ∧ n - k = gk ∧ j = .int .i64 k ∧ OwnB w.heap.size wr v out ∧ Hid (([64] : List Int) ++ esc l = out ++ esc (l.drop k)) ∧ out.length ≤ 2 * k + 1 ∧ Below w.heap.size w wr)
      case atStart => exact ⟨0, ([64] : List Int), Nat.zero_le _, rfl, rfl, hown, rfl, by simp, hbel⟩
      case round =>
        clear hown hbel
        obtain ⟨k, out, hk, rfl, rfl, hown, HE, hol, hbel⟩ := hrel
        by_cases hkn : k < n
        · have hcs := HCS.out
          have hz : (k : Int) < (n : Int) := by omega
          have g0 : wr.cell? ⟨b', o' + k, none⟩ = some (.int .u8 (nth l k)) := by rw [hbel.cell (p := ⟨b', o' + k, none⟩) hlt]; exact hcs k hkn
          by_cases hk1 : k + 1 < n
          · have hz1 : (k : Int) + 1 < (n : Int) := by omega
            have g1 : wr.cell? ⟨b', o' + (k + 1), none⟩ = some (.int .u8 (nth l (k + 1))) := by rw [hbel.cell (p := ⟨b', o' + (k + 1), none⟩) hlt]; exact hcs (k + 1) hk1
            obtain ⟨x, hx⟩ : ∃ x, nth l k = x := ⟨_, rfl⟩
            obtain ⟨y, hy⟩ : ∃ y, nth l (k + 1) = y := ⟨_, rfl⟩
            cases hp : pair x y with
            | true =>
              have HE2 : Hid (([64] : List Int) ++ esc l = (((out ++ [64]) ++ [x]) ++ [y]) ++ esc (l.drop (k + 2))) := by
                have := HE.out
                rw [esc_step_pair l k (by rw [HL.out]; exact hk1) (by rw [hx, hy]; exact hp), hx, hy] at this
                rw [List.append_assoc, List.append_assoc, List.append_assoc]
                exact this
              have HP : Hid (pair x y = true) := hp
              have h0 : ∀ W : World, Below wr.heap.size wr W → W.cell? ⟨b', o' + k, none⟩ = some (.int .u8 x) := fun W hW => by rw [hW.cell (p := ⟨b', o' + k, none⟩) (Nat.lt_of_lt_of_le hlt hbel.size), g0, hx]
              have HC0 : Hid (∀ W : World, Below w.heap.size w W → W.cell? ⟨b', o' + k, none⟩ = some (.int .u8 x)) := fun W hW => by rw [hW.cell (p := ⟨b', o' + k, none⟩) hlt, hcs k hkn, hx]
              have HC1 : Hid (∀ W : World, Below w.heap.size w W → W.cell? ⟨b', o' + (k + 1), none⟩ = some (.int .u8 y)) := fun W hW => by rw [hW.cell (p := ⟨b', o' + (k + 1), none⟩) hlt, hcs (k + 1) hk1, hy]
              rw [hx] at g0
              rw [hy] at g1
              clear hcs HE hp h0 hx hy
              go_wp2
              go_quiet ((go_at_call 19; exact Calls.quiet_of_same (isPair_any _ _ true _ HP)))
              have hown1 : OwnB w.heap.size (wr.drewN nq) u5 out := hown
              have hbel1 : Below w.heap.size w (wr.drewN nq) := hbel.trans ⟨rfl, rfl, rfl, Nat.le_refl _, fun _ _ => rfl⟩
              clear hown hbel g0 g1
              generalize wr.drewN nq = wr at hown1 hbel1 ⊢
              go_wp2_with (first | (at_builtin; refine wpList_push _ rfl (.tmp 44) (.tmp 45) rfl w.heap.size _ out 64 rfl hown1 _ rfl (by simp) (by omega) hbel1.size ?_; intro v1 w1 hown2 hb2; have hbel2 := hbel1.trans hb2; have c1 := HC0.out w1 hbel2) | (at_builtin; refine wpList_push _ rfl (.tmp 47) (.tmp 52) rfl w.heap.size _ (out ++ [64]) x rfl hown2 _ rfl (by simp) (by simp; omega) hbel2.size ?_; intro v2 w2 hown3 hb3; have hbel3 := hbel2.trans hb3; have c2 := HC1.out w2 hbel3) | (at_builtin; refine wpList_push _ rfl (.tmp 54) (.tmp 60) rfl w.heap.size _ ((out ++ [64]) ++ [x]) y rfl hown3 _ rfl (by simp) (by simp; omega) hbel3.size ?_; intro v3 w3 hown4 hb4; have hbel4 := hbel3.trans hb4))
              go_roundg (n - (k + 2))
              case measure => go_light; omega
              case rel => exact ⟨k + 2, _, by omega, rfl, by go_num, hown4, HE2, by simp; omega, hbel4⟩
            | false =>
              have HE2 : Hid (([64] : List Int) ++ esc l = (out ++ [x]) ++ esc (l.drop (k + 1))) := by
                have := HE.out
                rw [esc_step_plain l k (by rw [HL.out]; exact hk1) (by rw [hx, hy]; exact hp), hx] at this
                rw [List.append_assoc]
                exact this
              have HP : Hid (pair x y = false) := hp
              have HC0 : Hid (∀ W : World, Below w.heap.size w W → W.cell? ⟨b', o' + k, none⟩ = some (.int .u8 x)) := fun W hW => by rw [hW.cell (p := ⟨b', o' + k, none⟩) hlt, hcs k hkn, hx]
              rw [hx] at g0
              rw [hy] at g1
              clear hcs HE hp hx hy
              go_wp2
              go_quiet ((go_at_call 19; exact Calls.quiet_of_same (isPair_any _ _ false _ HP)))
              have hown1 : OwnB w.heap.size (wr.drewN nq) u5 out := hown
              have hbel1 : Below w.heap.size w (wr.drewN nq) := hbel.trans ⟨rfl, rfl, rfl, Nat.le_refl _, fun _ _ => rfl⟩
              clear hown hbel g0 g1
              generalize wr.drewN nq = wr at hown1 hbel1 ⊢
              have c0 := HC0.out wr hbel1
              go_wp2_with (at_builtin; refine wpList_push _ rfl (.tmp 64) (.tmp 69) rfl w.heap.size _ out x rfl hown1 _ rfl (by simp) (by omega) hbel1.size ?_; intro v1 w1 hown2 hb2; have hbel2 := hbel1.trans hb2)
              go_roundg (n - (k + 1))
              case measure => go_light; omega
              case rel => exact ⟨k + 1, _, by omega, rfl, by go_num, hown2, HE2, by simp; omega, hbel2⟩
          · have hd : decide ((k : Int) + 1 < (n : Int)) = false := decide_eq_false (by omega)
            obtain ⟨x, hx⟩ : ∃ x, nth l k = x := ⟨_, rfl⟩
            have HE2 : Hid (([64] : List Int) ++ esc l = (out ++ [x]) ++ esc (l.drop (k + 1))) := by
              have := HE.out
              rw [esc_step_last l k (by rw [HL.out]; omega), hx] at this
              rw [List.append_assoc]
              exact this
            have HC0 : Hid (∀ W : World, Below w.heap.size w W → W.cell? ⟨b', o' + k, none⟩ = some (.int .u8 x)) := fun W hW => by rw [hW.cell (p := ⟨b', o' + k, none⟩) hlt, hcs k hkn, hx]
            clear hcs HE hx g0
            go_wp2
            go_quiet (fail)
            have hown1 : OwnB w.heap.size (wr.drewN nq) u5 out := hown
            have hbel1 : Below w.heap.size w (wr.drewN nq) := hbel.trans ⟨rfl, rfl, rfl, Nat.le_refl _, fun _ _ => rfl⟩
            clear hown hbel
            generalize wr.drewN nq = wr at hown1 hbel1 ⊢
            have c0 := HC0.out wr hbel1
            go_wp2_with (at_builtin; refine wpList_push _ rfl (.tmp 64) (.tmp 69) rfl w.heap.size _ out x rfl hown1 _ rfl (by simp) (by omega) hbel1.size ?_; intro v1 w1 hown2 hb2; have hbel2 := hbel1.trans hb2)
            go_roundg (n - (k + 1))
            case measure => go_light; omega
            case rel => exact ⟨k + 1, _, by omega, rfl, by go_num, hown2, HE2, by simp; omega, hbel2⟩
        · have : k = n := by omega
          subst this
          obtain ⟨p', c', rfl⟩ := hown.shape
          have hfin : out = escAt true l := by
            have := HE.out
            rw [List.drop_of_length_le (by rw [HL.out]; exact Nat.le_refl _), show esc [] = [] from rfl, List.append_nil] at this
            rw [← this]
            exact escAt_yes l HL0.out H64.out
          have htx : Txt wr p' out.length c' (escAt true l) := by rw [← hfin]; exact hown.txt (fun x hx => escAt_bytes true l HB.out x (by rw [← hfin]; exact hx))
          clear HE hown hfin
          go_wp2
          go_ret
          exact ⟨p', _, c', rfl, htx, hbel⟩
    · have e64 : (nth l 0 == 64) = false := beq_eq_false_iff_ne.2 h64
      have H64 : Hid (nth l 0 ≠ 64) := h64
      clear h64
      go_enter Try.func9, Try.ntmps9
      go_wp2
      clear e64 g00
      go_loopg [5, 6] n (fun gk v j wr => ∃ (k : Nat) (out : List Int), k ≤ n ∧ n - k = gk ∧ j = .int .i64 k ∧ OwnB w.heap.size wr v out ∧ Hid (([] : List Int) ++ esc l = out ++ esc (l.drop k)) ∧ out.length ≤ 2 * k + 1 ∧ Below w.heap.size w wr)
      case atStart => exact ⟨0, ([] : List Int), Nat.zero_le _, rfl, rfl, hown, rfl, by simp, hbel⟩
      case round =>
        clear hown hbel
        obtain ⟨k, out, hk, rfl, rfl, hown, HE, hol, hbel⟩ := hrel
        by_cases hkn : k < n
        · have hcs := HCS.out
          have hz : (k : Int) < (n : Int) := by omega
          have g0 : wr.cell? ⟨b', o' + k, none⟩ = some (.int .u8 (nth l k)) := by rw [hbel.cell (p := ⟨b', o' + k, none⟩) hlt]; exact hcs k hkn
          by_cases hk1 : k + 1 < n
          · have hz1 : (k : Int) + 1 < (n : Int) := by omega
            have g1 : wr.cell? ⟨b', o' + (k + 1), none⟩ = some (.int .u8 (nth l (k + 1))) := by rw [hbel.cell (p := ⟨b', o' + (k + 1), none⟩) hlt]; exact hcs (k + 1) hk1
            obtain ⟨x, hx⟩ : ∃ x, nth l k = x := ⟨_, rfl⟩
            obtain ⟨y, hy⟩ : ∃ y, nth l (k + 1) = y := ⟨_, rfl⟩
            cases hp : pair x y with
            | true =>
              have HE2 : Hid (([] : List Int) ++ esc l = (((out ++ [64]) ++ [x]) ++ [y]) ++ esc (l.drop (k + 2))) := by
                have := HE.out
                rw [esc_step_pair l k (by rw [HL.out]; exact hk1) (by rw [hx, hy]; exact hp), hx, hy] at this
                rw [List.append_assoc, List.append_assoc, List.append_assoc]
                exact this
              have HP : Hid (pair x y = true) := hp
              have h0 : ∀ W : World, Below wr.heap.size wr W → W.cell? ⟨b', o' + k, none⟩ = some (.int .u8 x) := fun W hW => by rw [hW.cell (p := ⟨b', o' + k, none⟩) (Nat.lt_of_lt_of_le hlt hbel.size), g0, hx]
              have HC0 : Hid (∀ W : World, Below w.heap.size w W → W.cell? ⟨b', o' + k, none⟩ = some (.int .u8 x)) := fun W hW => by rw [hW.cell (p := ⟨b', o' + k, none⟩) hlt, hcs k hkn, hx]
              have HC1 : Hid (∀ W : World, Below w.heap.size w W → W.cell? ⟨b', o' + (k + 1), none⟩ = some (.int .u8 y)) := fun W hW => by rw [hW.cell (p := ⟨b', o' + (k + 1), none⟩) hlt, hcs (k + 1) hk1, hy]
              rw [hx] at g0
              rw [hy] at g1
              clear hcs HE hp h0 hx hy
              go_wp2
              go_quiet ((go_at_call 19; exact Calls.quiet_of_same (isPair_any _ _ true _ HP)))
              have hown1 : OwnB w.heap.size (wr.drewN nq) u5 out := hown
              have hbel1 : Below w.heap.size w (wr.drewN nq) := hbel.trans ⟨rfl, rfl, rfl, Nat.le_refl _, fun _ _ => rfl⟩
              clear hown hbel g0 g1
              generalize wr.drewN nq = wr at hown1 hbel1 ⊢
              go_wp2_with (first | (at_builtin; refine wpList_push _ rfl (.tmp 44) (.tmp 45) rfl w.heap.size _ out 64 rfl hown1 _ rfl (by simp) (by omega) hbel1.size ?_; intro v1 w1 hown2 hb2; have hbel2 := hbel1.trans hb2; have c1 := HC0.out w1 hbel2) | (at_builtin; refine wpList_push _ rfl (.tmp 47) (.tmp 52) rfl w.heap.size _ (out ++ [64]) x rfl hown2 _ rfl (by simp) (by simp; omega) hbel2.size ?_; intro v2 w2 hown3 hb3; have hbel3 := hbel2.trans hb3; have c2 := HC1.out w2 hbel3) | (at_builtin; refine wpList_push _ rfl (.tmp 54) (.tmp 60) rfl w.heap.size _ ((out ++ [64]) ++ [x]) y rfl hown3 _ rfl (by simp) (by simp; omega) hbel3.size ?_; intro v3 w3 hown4 hb4; have hbel4 := hbel3.trans hb4))
              go_roundg (n - (k + 2))
              case measure => go_light; omega
              case rel => exact ⟨k + 2, _, by omega, rfl, by go_num, hown4, HE2, by simp; omega, hbel4⟩
            | false =>
              have HE2 : Hid (([] : List Int) ++ esc l = (out ++ [x]) ++ esc (l.drop (k + 1))) := by
                have := HE.out
                rw [esc_step_plain l k (by rw [HL.out]; exact hk1) (by rw [hx, hy]; exact hp), hx] at this
                rw [List.append_assoc]
                exact this
              have HP : Hid (pair x y = false) := hp
              have HC0 : Hid (∀ W : World, Below w.heap.size w W → W.cell? ⟨b', o' + k, none⟩ = some (.int .u8 x)) := fun W hW => by rw [hW.cell (p := ⟨b', o' + k, none⟩) hlt, hcs k hkn, hx]
              rw [hx] at g0
              rw [hy] at g1
              clear hcs HE hp hx hy
              go_wp2
              go_quiet ((go_at_call 19; exact Calls.quiet_of_same (isPair_any _ _ false _ HP)))
              have hown1 : OwnB w.heap.size (wr.drewN nq) u5 out := hown
              have hbel1 : Below w.heap.size w (wr.drewN nq) := hbel.trans ⟨rfl, rfl, rfl, Nat.le_refl _, fun _ _ => rfl⟩
              clear hown hbel g0 g1
              generalize wr.drewN nq = wr at hown1 hbel1 ⊢
              have c0 := HC0.out wr hbel1
              go_wp2_with (at_builtin; refine wpList_push _ rfl (.tmp 64) (.tmp 69) rfl w.heap.size _ out x rfl hown1 _ rfl (by simp) (by omega) hbel1.size ?_; intro v1 w1 hown2 hb2; have hbel2 := hbel1.trans hb2)
              go_roundg (n - (k + 1))
              case measure => go_light; omega
              case rel => exact ⟨k + 1, _, by omega, rfl, by go_num, hown2, HE2, by simp; omega, hbel2⟩
          · have hd : decide ((k : Int) + 1 < (n : Int)) = false := decide_eq_false (by omega)
            obtain ⟨x, hx⟩ : ∃ x, nth l k = x := ⟨_, rfl⟩
            have HE2 : Hid (([] : List Int) ++ esc l = (out ++ [x]) ++ esc (l.drop (k + 1))) := by
              have := HE.out
              rw [esc_step_last l k (by rw [HL.out]; omega), hx] at this
              rw [List.append_assoc]
              exact this
            have HC0 : Hid (∀ W : World, Below w.heap.size w W → W.cell? ⟨b', o' + k, none⟩ = some (.int .u8 x)) := fun W hW => by rw [hW.cell (p := ⟨b', o' + k, none⟩) hlt, hcs k hkn, hx]
            clear hcs HE hx g0
            go_wp2
            go_quiet (fail)
            have hown1 : OwnB w.heap.size (wr.drewN nq) u5 out := hown
            have hbel1 : Below w.heap.size w (wr.drewN nq) := hbel.trans ⟨rfl, rfl, rfl, Nat.le_refl _, fun _ _ => rfl⟩
            clear hown hbel
            generalize wr.drewN nq = wr at hown1 hbel1 ⊢
            have c0 := HC0.out wr hbel1
            go_wp2_with (at_builtin; refine wpList_push _ rfl (.tmp 64) (.tmp 69) rfl w.heap.size _ out x rfl hown1 _ rfl (by simp) (by omega) hbel1.size ?_; intro v1 w1 hown2 hb2; have hbel2 := hbel1.trans hb2)
            go_roundg (n - (k + 1))
            case measure => go_light; omega
            case rel => exact ⟨k + 1, _, by omega, rfl, by go_num, hown2, HE2, by simp; omega, hbel2⟩
        · have : k = n := by omega
          subst this
          obtain ⟨p', c', rfl⟩ := hown.shape
          have hfin : out = escAt true l := by
            have := HE.out
            rw [List.drop_of_length_le (by rw [HL.out]; exact Nat.le_refl _), show esc [] = [] from rfl, List.append_nil] at this
            rw [← this]
            exact escAt_no l HL0.out H64.out
          have htx : Txt wr p' out.length c' (escAt true l) := by rw [← hfin]; exact hown.txt (fun x hx => escAt_bytes true l HB.out x (by rw [← hfin]; exact hx))
          clear HE hown hfin
          go_wp2
          go_ret
          exact ⟨p', _, c', rfl, htx, hbel⟩

set_option maxHeartbeats 400000 in
theorem escape_any (p : Option Addr) (n c : Nat) (l : List Int) (b : Bool) (w : World) (hn : n ≤ 1048576) (h : Txt w p n c l) :
    Calls Try.prog 9 #[.slice p n c, .bool b] w fun e w' => ∃ p' n' c', e = .returned (.slice p' n' c') ∧ Txt w' p' n' c' (escAt b l) ∧ Below w.heap.size w w' := by
  rcases Nat.eq_zero_or_pos n with rfl | hpos
  · obtain rfl : l = [] := List.eq_nil_of_length_eq_zero h.1
    have he : escAt b [] = [] := by unfold escAt; rw [if_neg (fun e => by cases e.2)]; rfl
    have hd : decide ((0 : Int) < ((0 : Nat) : Int)) = false := by decide
    rw [he]
    clear h
    cases b <;>
    · go_enter Try.func9, Try.ntmps9
      go_wp2
      refine wp_loop_rounds 1 ?_
      rw [rounds_succ]
      go_wp2
      go_ret
      exact ⟨_, 0, 0, rfl, ⟨rfl, Nat.le_refl _, fun x hx => (by cases hx), fun h => absurd h (Nat.lt_irrefl _)⟩, (Below.refl _ _).alloc (Nat.le_refl _) _⟩
  · exact escape_pos p n c l b w hpos hn h
end Go.Proofs.Qxb6003772a
