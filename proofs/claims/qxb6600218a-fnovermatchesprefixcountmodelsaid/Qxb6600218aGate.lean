import Derived.Test.Qxb6600218aOver
namespace Go.Proofs.Qxb6600218a
open Go.RowKit
set_option linter.unusedVariables false

def IsBool (e : Ending) : Prop := ∃ b, e = .returned (.bool b)

/-! ### The byte bound: some bool -/
set_option maxHeartbeats 1000000 in
theorem zz5 (wA hA oA nA : Option Addr) (n M Mo Mn c0 c1 c2 c3 : Nat) (H : List (List Int)) (lim d : Int) (w : World) (sH : Sl2 w hA M H) (h0 : n ≤ 9223372036854775807) (h1 : M ≤ 9223372036854775807) (h2 : Mo ≤ 9223372036854775807) (h3 : Mn ≤ 9223372036854775807) :
    Calls Try.prog 5 #[.slice wA n c0, .slice hA M c1, .slice oA Mo c2, .slice nA Mn c3, .int .u64 lim, .int .i64 d] w fun e w' => IsBool e ∧ w = w' := by
  by_cases g0 : n ≤ 1048576
  case neg =>
    go_enter Try.func5, Try.ntmps5
    go_wp2
    go_ret
    exact ⟨⟨_, rfl⟩, rfl⟩
  by_cases g1 : M ≤ 1048576
  case neg =>
    go_enter Try.func5, Try.ntmps5
    go_wp2
    go_ret
    exact ⟨⟨_, rfl⟩, rfl⟩
  by_cases g2 : n + M ≤ 1048576
  case neg =>
    go_enter Try.func5, Try.ntmps5
    go_wp2
    go_ret
    exact ⟨⟨_, rfl⟩, rfl⟩
  have HS : Hid (Sl2 w hA M H) := sH
  clear sH
  go_enter Try.func5, Try.ntmps5
  go_wp2
  go_loop [13, 14] (fun z i => ∃ (k : Nat) (t : Int), i = .int .i64 k ∧ k ≤ M ∧ z = .int .i64 t ∧ 0 ≤ t ∧ t ≤ 1048576) (fun _ i => M - (intOf i).toNat)
  case atStart => exact ⟨0, _, rfl, by omega, rfl, by omega, by omega⟩
  case round =>
    obtain ⟨k, t, rfl, hk, rfl, t0, t1⟩ := hrel
    by_cases hlt : k < M
    · obtain ⟨b, off, rfl, hc⟩ := HS.out.row (by omega)
      obtain ⟨a, len, cap, e1, e2, e3, e4, e5⟩ := hc k hlt
      have e3' : len ≤ 9223372036854775807 := by unfold maxLen at e3; omega
      clear hc e4 e3 e5
      by_cases g3 : len ≤ 1048576
      · by_cases g4 : t + len ≤ 1048576
        · go_wp2
          go_round
          case rel => exact ⟨k + 1, _, by go_num, by omega, rfl, by omega, by omega⟩
          case measure => simp [intOf]; omega
        · go_wp2
          go_ret
          exact ⟨⟨_, rfl⟩, rfl⟩
      · go_wp2
        go_ret
        exact ⟨⟨_, rfl⟩, rfl⟩
    · by_cases g3 : Mo ≤ 1048576
      · by_cases g4 : t + Mo ≤ 1048576
        · by_cases g5 : Mn ≤ 1048576
          · by_cases g6 : t + Mo + Mn ≤ 1048576
            · go_wp2
              go_ret
              exact ⟨⟨_, rfl⟩, rfl⟩
            · go_wp2
              go_ret
              exact ⟨⟨_, rfl⟩, rfl⟩
          · go_wp2
            go_ret
            exact ⟨⟨_, rfl⟩, rfl⟩
        · go_wp2
          go_ret
          exact ⟨⟨_, rfl⟩, rfl⟩
      · go_wp2
        go_ret
        exact ⟨⟨_, rfl⟩, rfl⟩

/-! ### The bound in words: it bounds the lengths -/
/-- The lengths of the first k lists, summed. -/
def lens (H : List (List Int)) : Nat → Nat
  | 0 => 0
  | k + 1 => lens H k + (H.getD k []).length
theorem lens_mono {H : List (List Int)} {i j : Nat} (h : i ≤ j) : lens H i ≤ lens H j := by
  obtain ⟨t, rfl⟩ : ∃ t, j = i + t := ⟨j - i, by omega⟩
  clear h
  induction t with
  | zero => exact Nat.le_refl _
  | succ t ih => show _ ≤ lens H (i + t) + _; omega
theorem lens_one {H : List (List Int)} {i j : Nat} (h : i < j) : (H.getD i []).length ≤ lens H j := by
  have h1 := lens_mono (H := H) (show i + 1 ≤ j from h)
  have h2 : lens H (i + 1) = lens H i + (H.getD i []).length := rfl
  omega
/-- A number of words is returned: where it is within the cap, it bounds every length and their sum. -/
def Words (n M Mo Mn : Nat) (H : List (List Int)) (e : Ending) : Prop := ∃ t : Int, e = .returned (.int .i64 t) ∧ (t ≤ 131072 → n ≤ 131072 ∧ M ≤ 131072 ∧ Mo ≤ 131072 ∧ Mn ≤ 131072 ∧ lens H M ≤ 131072)
/-- What is known of t on the way: past the cap, or the sum so far. -/
def WordSum (t : Int) (s : Nat) : Prop := t = 131073 ∨ (131072 < t ∧ t ≤ 262144) ∨ t = s ∧ s ≤ 131072
theorem WordSum.bound {t : Int} {s : Nat} (h : WordSum t s) : 0 ≤ t ∧ t ≤ 262144 := by rcases h with h | h | h <;> omega
theorem WordSum.add {t : Int} {s : Nat} (h : WordSum t s) (n : Nat) : WordSum (addv t n) (s + n) := by
  unfold addv
  split
  · exact .inl rfl
  · rename_i hn
    rcases h with h | h | ⟨h1, h2⟩
    · omega
    · omega
    · by_cases h3 : s + n ≤ 131072
      · exact .inr (.inr ⟨by omega, h3⟩)
      · exact .inr (.inl (by omega))
theorem WordSum.le {t : Int} {s : Nat} (h : WordSum t s) (ht : t ≤ 131072) : s ≤ 131072 := by rcases h with h | h | h <;> omega

set_option maxHeartbeats 1000000 in
theorem words6 (wA hA oA nA : Option Addr) (n M Mo Mn c0 c1 c2 c3 : Nat) (H : List (List Int)) (w : World) (sH : Sl2 w hA M H) (h0 : n ≤ 9223372036854775807) (h1 : M ≤ 9223372036854775807) (h2 : Mo ≤ 9223372036854775807) (h3 : Mn ≤ 9223372036854775807) :
    Calls Try.prog 6 #[.slice wA n c0, .slice hA M c1, .slice oA Mo c2, .slice nA Mn c3] w fun e w' => Words n M Mo Mn H e ∧ w = w' := by
  have HS : Hid (Sl2 w hA M H) := sH
  clear sH
  obtain ⟨t1, T1⟩ : ∃ t, Hid (addv 0 n = t) := ⟨_, rfl⟩
  have S1 : WordSum t1 n := by rw [← T1.out]; have := WordSum.add (t := 0) (s := 0) (.inr (.inr ⟨rfl, by omega⟩)) n; rwa [Nat.zero_add] at this
  obtain ⟨t2, T2⟩ : ∃ t, Hid (addv t1 M = t) := ⟨_, rfl⟩
  have S2 : WordSum t2 (n + M) := by rw [← T2.out]; exact S1.add M
  obtain ⟨t3, T3⟩ : ∃ t, Hid (addv t2 Mo = t) := ⟨_, rfl⟩
  have S3 : WordSum t3 (n + M + Mo) := by rw [← T3.out]; exact S2.add Mo
  obtain ⟨t4, T4⟩ : ∃ t, Hid (addv t3 Mn = t) := ⟨_, rfl⟩
  have S4 : WordSum t4 (n + M + Mo + Mn) := by rw [← T4.out]; exact S3.add Mn
  have B1 := S1.bound
  have B2 := S2.bound
  have B3 := S3.bound
  have B4 := S4.bound
  go_enter Try.func6, Try.ntmps6
  go_wp2_with fail
  refine (add14 0 n _ (by omega) (by omega)).mono ?_
  rintro e w' ⟨rfl, rfl⟩
  rw [T1.out]
  go_wp2_with fail
  refine (add14 t1 M _ (by omega) (by omega)).mono ?_
  rintro e w' ⟨rfl, rfl⟩
  rw [T2.out]
  go_wp2_with fail
  refine (add14 t2 Mo _ (by omega) (by omega)).mono ?_
  rintro e w' ⟨rfl, rfl⟩
  rw [T3.out]
  go_wp2_with fail
  refine (add14 t3 Mn _ (by omega) (by omega)).mono ?_
  rintro e w' ⟨rfl, rfl⟩
  rw [T4.out]
  go_wp2_with fail
  go_loop [9, 10] (fun z i => ∃ (k : Nat) (t : Int), i = .int .i64 k ∧ k ≤ M ∧ z = .int .i64 t ∧ WordSum t (n + M + Mo + Mn + lens H k)) (fun _ i => M - (intOf i).toNat)
  case atStart => exact ⟨0, t4, rfl, by omega, rfl, S4⟩
  case round =>
    obtain ⟨k, t, rfl, hk, rfl, hS⟩ := hrel
    have Bt := hS.bound
    by_cases hlt : k < M
    · by_cases hcap : t ≤ 131072
      · obtain ⟨b, off, rfl, hc⟩ := HS.out.row (by omega)
        obtain ⟨a, len, cap, e1, e2, e3, e4, e5⟩ := hc k hlt
        have e3' : len ≤ 9223372036854775807 := by unfold maxLen at e3; omega
        have hS2 : WordSum (addv t len) (n + M + Mo + Mn + lens H (k + 1)) := by
          have := hS.add len
          have e : lens H (k + 1) = lens H k + (H.getD k []).length := rfl
          rw [e, e5.1, ← Nat.add_assoc]; exact this
        obtain ⟨t', T'⟩ : ∃ x, Hid (addv t len = x) := ⟨_, rfl⟩
        rw [T'.out] at hS2
        clear hc e4 e3 e5
        go_wp2_with fail
        refine (add14 t len _ (by omega) (by omega)).mono ?_
        rintro e w' ⟨rfl, rfl⟩
        rw [T'.out]
        go_wp2
        go_round
        case rel => exact ⟨k + 1, t', by go_num, by omega, rfl, hS2⟩
        case measure => simp [intOf]; omega
      · go_wp2
        go_ret
        exact ⟨⟨t, rfl, fun h => by omega⟩, rfl⟩
    · go_wp2
      go_ret
      refine ⟨⟨t, rfl, fun h => ?_⟩, rfl⟩
      have := hS.le h
      obtain rfl : k = M := by omega
      omega

/-! ### The premise -/
/-- What the premise says of one master. -/
def P1 (W : List Int) (H : List (List Int)) (O Nx : List Int) (m : Nat) : Prop :=
  (0 ≤ Nx.getD m 0 ∧ Nx.getD m 0 ≤ (H.getD m []).length) ∧ (∀ j, j < (H.getD m []).length → 0 ≤ (H.getD m []).getD j 0 ∧ (H.getD m []).getD j 0 < 16384) ∧ psum W (avail H Nx m) (avail H Nx m).length ≤ O.getD m 0
def PU (W : List Int) (H : List (List Int)) (O Nx : List Int) (k : Nat) : Prop := ∀ m, m < k → P1 W H O Nx m
theorem PU.step {W : List Int} {H : List (List Int)} {O Nx : List Int} {k : Nat} (h : PU W H O Nx k) (h1 : P1 W H O Nx k) : PU W H O Nx (k + 1) := fun m hm => by
  by_cases e : m = k
  · rw [e]; exact h1
  · exact h m (by omega)
def PremSays (W : List Int) (H : List (List Int)) (O Nx : List Int) (e : Ending) : Prop := ∃ b, e = .returned (.bool b) ∧ (b = true → Prem W H O Nx)
theorem says_no (W : List Int) (H : List (List Int)) (O Nx : List Int) : PremSays W H O Nx (.returned (.bool false)) := ⟨false, rfl, fun h => by simp at h⟩
theorem ps_step (W h : List Int) {x j : Nat} (hx : x ≤ j) : psum W (h.drop x) (j + 1 - x) = psum W (h.drop x) (j - x) + wOf W (h.getD j 0) := by
  rw [show j + 1 - x = (j - x) + 1 from by omega]
  show psum W (h.drop x) (j - x) + wOf W ((h.drop x).getD (j - x) 0) = _
  have : (h.drop x).getD (j - x) 0 = h.getD j 0 := by
    simp only [List.getD_eq_getElem?_getD, List.getElem?_drop]
    rw [show x + (j - x) = j from by omega]
  rw [this]
theorem ps_skip (W h : List Int) {x j : Nat} (hx : j < x) : psum W (h.drop x) (j + 1 - x) = psum W (h.drop x) (j - x) := by
  rw [show j + 1 - x = 0 from by omega, show j - x = 0 from by omega]

set_option maxHeartbeats 2000000 in
set_option maxRecDepth 100000 in
theorem prem7 (W : List Int) (H : List (List Int)) (O Nx : List Int) (wA hA oA nA : Option Addr) (n M Mo Mn c0 c1 c2 c3 : Nat) (w : World) (sW : Sl .u64 w wA n W) (sH : Sl2 w hA M H) (sO : Sl .u64 w oA Mo O) (sN : Sl .i64 w nA Mn Nx) (uW : U64 W) (uO : U64 O)
    (h0 : n ≤ 131072) (h1 : M ≤ 131072) (h2 : Mo ≤ 131072) (h3 : Mn ≤ 131072) :
    Calls Try.prog 7 #[.slice wA n c0, .slice hA M c1, .slice oA Mo c2, .slice nA Mn c3] w fun e w' => PremSays W H O Nx e ∧ w = w' := by
  by_cases g0 : n ≤ 16384
  case neg =>
    go_enter Try.func7, Try.ntmps7
    go_wp2
    go_ret
    exact ⟨says_no W H O Nx, rfl⟩
  by_cases g1 : M = Mo
  case neg =>
    have d1 : ((M : Int) != (Mo : Int)) = true := by rw [bne_iff_ne]; omega
    go_enter Try.func7, Try.ntmps7
    go_wp2
    go_ret
    exact ⟨says_no W H O Nx, rfl⟩
  subst g1
  by_cases g2 : Mn = M
  case neg =>
    have d1 : ((Mn : Int) != (M : Int)) = true := by rw [bne_iff_ne]; omega
    have d0 : ((M : Int) != (M : Int)) = false := by simp
    go_enter Try.func7, Try.ntmps7
    go_wp2
    go_ret
    exact ⟨says_no W H O Nx, rfl⟩
  subst g2
  have hlO := sO.1
  have HSH : Hid (Sl2 w hA Mn H) := sH
  have HSO : Hid (Sl .u64 w oA Mn O) := sO
  have HSN : Hid (Sl .i64 w nA Mn Nx) := sN
  have HSW : Hid (Sl .u64 w wA n W) := sW
  have HLO : Hid (O.length = Mn) := hlO
  clear sH sO sN sW hlO
  go_enter Try.func7, Try.ntmps7
  go_wp2
  go_loop [10] (fun i => ∃ k : Nat, i = .int .i64 k ∧ k ≤ Mn ∧ Hid (PU W H O Nx k)) (fun i => Mn - (intOf i).toNat)
  case atStart => exact ⟨0, rfl, by omega, fun m hm => by omega⟩
  case round =>
    obtain ⟨m, rfl, hm, hPU⟩ := hrel
    by_cases hlt : m < Mn
    · obtain ⟨bo, oo, rfl, hO⟩ := HSO.out.row (by omega)
      obtain ⟨bn, on, rfl, hN⟩ := HSN.out.row (by omega)
      obtain ⟨bh, oh, rfl, hH⟩ := HSH.out.row (by omega)
      obtain ⟨a, len, cap, e1, e2, e3, e4, e5⟩ := hH m hlt
      obtain ⟨o, cO, HO⟩ : ∃ o, w.cell? ⟨bo, oo + m, none⟩ = some (.int .u64 o) ∧ Hid (O.getD m 0 = o) := ⟨_, hO m hlt, rfl⟩
      obtain ⟨x, cN, HX⟩ : ∃ x, w.cell? ⟨bn, on + m, none⟩ = some (.int .i64 x) ∧ Hid (Nx.getD m 0 = x) := ⟨_, hN m hlt, rfl⟩
      have uo : 0 ≤ o ∧ o ≤ 18446744073709551615 := by rw [← HO.out]; exact uO m
      have e3' : len ≤ 9223372036854775807 := by unfold maxLen at e3; omega
      have E5 : Hid (Sl .i64 w a len (H.getD m [])) := e5
      clear hO hN hH e4 e3 e5
      by_cases x0 : x < 0
      · go_wp2
        go_ret
        exact ⟨says_no W H O Nx, rfl⟩
      have dx0 : decide (x < 0) = false := decide_eq_false x0
      by_cases x1 : (len : Int) < x
      · go_wp2
        go_ret
        exact ⟨says_no W H O Nx, rfl⟩
      obtain ⟨y, rfl⟩ := Int.eq_ofNat_of_zero_le (by omega : 0 ≤ x)
      have hyl : y ≤ len := by omega
      clear x0 x1 dx0
      have dy0 : decide ((y : Int) < 0) = false := decide_eq_false (by omega)
      have dy1 : decide ((len : Int) < (y : Int)) = false := decide_eq_false (by omega)
      obtain ⟨hh, HHH⟩ : ∃ l, Hid (H.getD m [] = l) := ⟨_, rfl⟩
      go_wp2
      go_loop [12, 13] (fun sm i => ∃ (j : Nat) (p : Int), i = .int .i64 j ∧ j ≤ len ∧ sm = .int .u64 p ∧ Hid (psum W (hh.drop y) (j - y) = p) ∧ 0 ≤ p ∧ p ≤ o ∧ Hid (∀ t, t < j → 0 ≤ hh.getD t 0 ∧ hh.getD t 0 < 16384)) (fun _ i => len - (intOf i).toNat)
      case atStart => exact ⟨0, 0, rfl, by omega, rfl, by rw [show 0 - y = 0 from by omega]; rfl, by omega, by omega, fun t ht => by omega⟩
      case round =>
        obtain ⟨j, p, rfl, hj, rfl, HP, p0, p1, hsl⟩ := hrel
        by_cases hjl : j < len
        · obtain ⟨b2, o2, rfl, hcv⟩ := E5.out.row (by omega)
          obtain ⟨s, cS, HS⟩ : ∃ s, w.cell? ⟨b2, o2 + j, none⟩ = some (.int .i64 s) ∧ Hid (hh.getD j 0 = s) := ⟨_, hcv j hjl, by rw [← HHH.out]; rfl⟩
          clear hcv
          by_cases s0 : s < 0
          · go_wp2
            go_ret
            exact ⟨says_no W H O Nx, rfl⟩
          have ds0 : decide (s < 0) = false := decide_eq_false s0
          by_cases s1 : 16384 ≤ s
          · go_wp2
            go_ret
            exact ⟨says_no W H O Nx, rfl⟩
          have hsl2 : Hid (∀ t, t < j + 1 → 0 ≤ hh.getD t 0 ∧ hh.getD t 0 < 16384) := fun t ht => by
            by_cases e : t = j
            · rw [e, HS.out]; omega
            · exact hsl.out t (by omega)
          by_cases hyj : y ≤ j
          · obtain ⟨ws, HWS⟩ : ∃ v, Hid (wOf W s = v) := ⟨_, rfl⟩
            have hws0 : 0 ≤ ws := by rw [← HWS.out]; exact wOf_nonneg uW.nonneg _
            have HP1 : Hid (psum W (hh.drop y) (j + 1 - y) = p + ws) := by unfold Hid; rw [ps_step W hh hyj, HP.out, HS.out, HWS.out]
            by_cases hw : o - p < ws
            · go_wp2_with (go_at_call 11; refine (wof11 wA n c0 W s _ HSW.out (by omega)).mono ?_; rintro e w' ⟨rfl, rfl⟩; rw [HWS.out])
              go_ret
              exact ⟨says_no W H O Nx, rfl⟩
            · go_wp2_with (go_at_call 11; refine (wof11 wA n c0 W s _ HSW.out (by omega)).mono ?_; rintro e w' ⟨rfl, rfl⟩; rw [HWS.out])
              go_round
              case rel => exact ⟨j + 1, p + ws, by go_num, by omega, rfl, HP1, by omega, by omega, hsl2⟩
              case measure => simp [intOf]; omega
          · have HP1 : Hid (psum W (hh.drop y) (j + 1 - y) = p) := by unfold Hid; rw [ps_skip W hh (by omega), HP.out]
            go_wp2
            go_round
            case rel => exact ⟨j + 1, p, by go_num, by omega, rfl, HP1, by omega, by omega, hsl2⟩
            case measure => simp [intOf]; omega
        · have hP1 : Hid (PU W H O Nx (m + 1)) := hPU.out.step (by
            have hl := E5.out.1
            obtain rfl : j = len := by omega
            refine ⟨by rw [HX.out, hl]; omega, by rw [hl, HHH.out]; exact hsl.out, ?_⟩
            unfold avail
            rw [HX.out, HO.out, HHH.out, List.length_drop, Int.toNat_natCast, show hh.length = j from by rw [← HHH.out]; exact hl, HP.out]
            exact p1)
          go_wp2
          go_round
          case rel => exact ⟨m + 1, by go_num, by omega, hP1⟩
          case measure => simp [intOf]; omega
    · have hfin : Hid (Prem W H O Nx) := by
        have e1 := HLO.out
        have e2 := HSH.out.1
        have e3 := HSN.out.1
        have e4 := HSW.out.1
        have hP := hPU.out
        obtain rfl : m = Mn := by omega
        exact ⟨by omega, by omega, by omega, fun i hi => (hP i (by omega)).1, fun i hi => (hP i (by omega)).2.1, fun i hi => (hP i (by omega)).2.2⟩
      go_wp2
      go_ret
      exact ⟨⟨true, rfl, fun _ => hfin.out⟩, rfl⟩
end Go.Proofs.Qxb6600218a
