import Derived.Test.Qxb6600218aGate
import Derived.Test.Qxb6600218aZZ
import Derived.OpenShut
namespace Go.Proofs.Qxb6600218a
open Go.RowKit
set_option linter.unusedVariables false

/-! ### The plain side of the law's own loops -/
/-- The greatest load at or over the limit, among the first m. -/
def TopIs (O : List Int) (lim : Int) (m : Nat) (f : Bool) (t : Int) : Prop :=
  (f = false ∧ ∀ i, i < m → O.getD i 0 < lim) ∨ (f = true ∧ lim ≤ t ∧ (∃ k, k < m ∧ O.getD k 0 = t) ∧ ∀ i, i < m → lim ≤ O.getD i 0 → O.getD i 0 ≤ t)
theorem top_zero (O : List Int) (lim t : Int) : TopIs O lim 0 false t := .inl ⟨rfl, fun i hi => by omega⟩
theorem top_skip {O : List Int} {lim t : Int} {m : Nat} {f : Bool} (h : TopIs O lim m f t) (hm : O.getD m 0 < lim) : TopIs O lim (m + 1) f t := by
  rcases h with ⟨h1, h2⟩ | ⟨h1, h2, ⟨k, h3, h4⟩, h5⟩
  · exact .inl ⟨h1, fun i hi => by by_cases e : i = m; (· rw [e]; exact hm); exact h2 i (by omega)⟩
  · exact .inr ⟨h1, h2, ⟨k, by omega, h4⟩, fun i hi hl => by by_cases e : i = m; (· rw [e] at hl; omega); exact h5 i (by omega) hl⟩
theorem top_take {O : List Int} {lim t : Int} {m : Nat} {f : Bool} (h : TopIs O lim m f t) (hm : lim ≤ O.getD m 0) (hf : f = false ∨ t < O.getD m 0) : TopIs O lim (m + 1) true (O.getD m 0) := by
  refine .inr ⟨rfl, hm, ⟨m, by omega, rfl⟩, fun i hi hl => ?_⟩
  by_cases e : i = m
  · rw [e]; exact Int.le_refl _
  · rcases h with ⟨h1, h2⟩ | ⟨h1, h2, _, h5⟩
    · have := h2 i (by omega); omega
    · have := h5 i (by omega) hl
      rcases hf with hf | hf
      · rw [h1] at hf; simp at hf
      · omega
theorem top_keep {O : List Int} {lim t : Int} {m : Nat} (h : TopIs O lim m true t) (hm : ¬ t < O.getD m 0) : TopIs O lim (m + 1) true t := by
  rcases h with ⟨h1, h2⟩ | ⟨h1, h2, ⟨k, h3, h4⟩, h5⟩
  · simp at h1
  · exact .inr ⟨h1, h2, ⟨k, by omega, h4⟩, fun i hi hl => by by_cases e : i = m; (· rw [e]; omega); exact h5 i (by omega) hl⟩
/-- The lowest index from c on whose load is the top. -/
def LowIs (O : List Int) (f : Bool) (lim t : Int) (c M : Nat) (b : Int) : Prop :=
  (b = -1 ∧ ∀ i, c ≤ i → i < M → ¬ (f = true ∧ lim ≤ O.getD i 0 ∧ O.getD i 0 = t)) ∨
  ∃ k : Nat, b = k ∧ c ≤ k ∧ k < M ∧ (f = true ∧ lim ≤ O.getD k 0 ∧ O.getD k 0 = t) ∧ ∀ i, c ≤ i → i < k → ¬ (f = true ∧ lim ≤ O.getD i 0 ∧ O.getD i 0 = t)
theorem low_start (O : List Int) (f : Bool) (lim t : Int) (M : Nat) : LowIs O f lim t M M (-1) := .inl ⟨rfl, fun i h1 h2 => by omega⟩
theorem low_take {O : List Int} {f : Bool} {lim t b : Int} {c M : Nat} (hc : c < M) (h : f = true ∧ lim ≤ O.getD c 0 ∧ O.getD c 0 = t) : LowIs O f lim t c M c :=
  .inr ⟨c, rfl, Nat.le_refl _, hc, h, fun i h1 h2 => by omega⟩
theorem low_skip {O : List Int} {f : Bool} {lim t b : Int} {c M : Nat} (hl : LowIs O f lim t (c + 1) M b) (h : ¬ (f = true ∧ lim ≤ O.getD c 0 ∧ O.getD c 0 = t)) : LowIs O f lim t c M b := by
  rcases hl with ⟨h1, h2⟩ | ⟨k, h1, h2, h3, h4, h5⟩
  · exact .inl ⟨h1, fun i i1 i2 => by by_cases e : i = c; (· rw [e]; exact h); exact h2 i (by omega) i2⟩
  · exact .inr ⟨k, h1, by omega, h3, h4, fun i i1 i2 => by by_cases e : i = c; (· rw [e]; exact h); exact h5 i (by omega) i2⟩
theorem low_best {O : List Int} {f : Bool} {lim t b : Int} {M : Nat} (ht : TopIs O lim M f t) (hl : LowIs O f lim t 0 M b) : Best O lim M b := by
  rcases hl with ⟨h1, h2⟩ | ⟨k, h1, h2, h3, ⟨h4, h4', h4''⟩, h5⟩
  · rcases ht with ⟨t1, t2⟩ | ⟨t1, t2, ⟨k, t3, t4⟩, t5⟩
    · exact .inl ⟨h1, t2⟩
    · exact absurd ⟨t1, by omega, t4⟩ (h2 k (by omega) t3)
  · rcases ht with ⟨t1, t2⟩ | ⟨t1, t2, ⟨k', t3, t4⟩, t5⟩
    · rw [t1] at h4; simp at h4
    · refine .inr ⟨k, h1, h3, h4', fun i hi hl => by have := t5 i hi hl; omega, fun i hi hl => ?_⟩
      have := t5 i (by omega) hl
      rcases Int.lt_or_eq_of_le this with e | e
      · omega
      · exact absurd ⟨t1, hl, e⟩ (h5 i (by omega) hi)
theorem tot_lens {W : List Int} {H : List (List Int)} {O Nx : List Int} {lim : Int} (m : Nat) : tot W H O Nx lim m ≤ lens H m := by
  induction m with
  | zero => exact Nat.le_refl _
  | succ m ih =>
    have e : tot W H O Nx lim (m + 1) = tot W H O Nx lim m + (if lim ≤ O.getD m 0 then need W H O Nx lim m else 0) := rfl
    have e2 : lens H (m + 1) = lens H m + (H.getD m []).length := rfl
    have h1 : need W H O Nx lim m ≤ (avail H Nx m).length := cnt_le _
    have h2 : (avail H Nx m).length ≤ (H.getD m []).length := by unfold avail; rw [List.length_drop]; omega
    rw [e, e2]
    split <;> omega

/-! ### The loops' relations, behind names -/
def RelTop (O : List Int) (lim : Int) (M : Nat) (f t i : Value) : Prop := ∃ (m : Nat) (fb : Bool) (tv : Int), i = .int .i64 m ∧ m ≤ M ∧ f = .bool fb ∧ t = .int .u64 tv ∧ 0 ≤ tv ∧ tv ≤ 18446744073709551615 ∧ TopIs O lim m fb tv

def RelLow (O : List Int) (fb : Bool) (lim tv : Int) (M : Nat) (b i : Value) : Prop := ∃ x k : Int, i = .int .i64 x ∧ -1 ≤ x ∧ x < M ∧ b = .int .i64 k ∧ LowIs O fb lim tv (x + 1).toNat M k
def RelTot (W : List Int) (H : List (List Int)) (O Nx : List Int) (lim : Int) (M : Nat) (wd : World) (t en i : Value) (wr : World) : Prop := ∃ m q : Nat, i = .int .i64 m ∧ m ≤ M ∧ t = .int .i64 (tot W H O Nx lim m) ∧ en = .bool (ends W H O Nx lim m) ∧ wr = wd.drewN q

set_option maxHeartbeats 2000000 in
set_option maxRecDepth 100000 in
theorem law_walk (W : List Int) (H : List (List Int)) (O Nx : List Int) (wA hA oA nA : Option Addr) (n M Mo Mn c0 c1 c2 c3 : Nat) (lim dp : Int) (w : World) (sW : Sl .u64 w wA n W) (sH : Sl2 w hA M H) (sO : Sl .u64 w oA Mo O) (sN : Sl .i64 w nA Mn Nx) (uW : U64 W) (uO : U64 O)
    (hl : 0 ≤ lim ∧ lim ≤ 18446744073709551615) (hdp : -9223372036854775808 ≤ dp ∧ dp ≤ 9223372036854775807)
    (h0 : n ≤ 9223372036854775807) (h1 : M ≤ 9223372036854775807) (h2 : Mo ≤ 9223372036854775807) (h3 : Mn ≤ 9223372036854775807) (z0 : wA = none → n = 0) (z1 : hA = none → M = 0) (z2 : oA = none → Mo = 0) (z3 : nA = none → Mn = 0) :
    Calls Try.prog 3 #[.slice wA n c0, .slice hA M c1, .slice oA Mo c2, .slice nA Mn c3, .int .u64 lim, .int .i64 dp] w fun e w' => e = .returned (.bool true) ∧ Below w.heap.size w w' := by
  have HSW : Hid (Sl .u64 w wA n W) := sW
  have HSH : Hid (Sl2 w hA M H) := sH
  have HSO : Hid (Sl .u64 w oA Mo O) := sO
  have HSN : Hid (Sl .i64 w nA Mn Nx) := sN
  have Z0 : Hid (wA = none → n = 0) := z0
  have Z1 : Hid (hA = none → M = 0) := z1
  have Z2 : Hid (oA = none → Mo = 0) := z2
  have Z3 : Hid (nA = none → Mn = 0) := z3
  clear sW sH sO sN z0 z1 z2 z3
  go_enter Try.func3, Try.ntmps3
  go_wp2_with fail
  refine (zz5 wA hA oA nA n M Mo Mn c0 c1 c2 c3 H lim dp _ HSH.out h0 h1 h2 h3).mono ?_
  rintro e w' ⟨⟨bz, rfl⟩, rfl⟩
  cases bz with
  | false =>
    go_wp2
    go_ret
    exact ⟨rfl, Below.refl _ _⟩
  | true =>
  go_wp2_with fail
  refine (words6 wA hA oA nA n M Mo Mn c0 c1 c2 c3 H _ HSH.out h0 h1 h2 h3).mono ?_
  rintro e w' ⟨⟨t, rfl, ht⟩, rfl⟩
  have HT : Hid (t ≤ 131072 → n ≤ 131072 ∧ M ≤ 131072 ∧ Mo ≤ 131072 ∧ Mn ≤ 131072 ∧ lens H M ≤ 131072) := ht
  clear ht
  by_cases gt : 131072 < t
  · go_wp2
    go_ret
    exact ⟨rfl, Below.refl _ _⟩
  have dt : decide (131072 < t) = false := decide_eq_false gt
  by_cases gd : dp < 0
  · go_wp2
    go_ret
    exact ⟨rfl, Below.refl _ _⟩
  have dd0 : decide (dp < 0) = false := decide_eq_false gd
  by_cases gd2 : 1073741824 < dp
  · go_wp2
    go_ret
    exact ⟨rfl, Below.refl _ _⟩
  obtain ⟨d, rfl⟩ := Int.eq_ofNat_of_zero_le (by omega : 0 ≤ dp)
  obtain ⟨b0, b1, b2, b3, b4⟩ := HT.out (by omega)
  have hd : d ≤ 1073741824 := by omega
  have dd1 : decide (1073741824 < (d : Int)) = false := decide_eq_false (by omega)
  clear HT h0 h1 h2 h3
  go_wp2_with fail
  refine (prem7 W H O Nx wA hA oA nA n M Mo Mn c0 c1 c2 c3 _ HSW.out HSH.out HSO.out HSN.out uW uO b0 b1 b2 b3).mono ?_
  rintro e w' ⟨⟨bp, rfl, hprem⟩, rfl⟩
  cases bp with
  | false =>
    go_wp2
    go_ret
    exact ⟨rfl, Below.refl _ _⟩
  | true =>
  have hp := hprem rfl
  clear hprem
  obtain rfl : M = Mo := by have := hp.lenH; have := HSH.out.1; have := HSO.out.1; omega
  obtain rfl : Mn = M := by have := hp.lenN; have := HSN.out.1; have := HSO.out.1; omega
  go_wp2_with fail
  refine (clone8 wA n c0 W _ HSW.out Z0.out (by omega)).mono ?_
  rintro e wa ⟨a0, rfl, kW, _, ba⟩
  go_wp2_with fail
  refine (clone9 hA Mn c1 H _ (HSH.out.below ba) Z1.out b1 (fun i hi => by have := lens_one (H := H) hi; omega)).mono ?_
  rintro e wb ⟨a1, rfl, kH, bb⟩
  have bab := ba.trans (bb.mono ba.size)
  go_wp2_with fail
  refine (clone8 oA Mn c2 O _ (HSO.out.below bab) Z2.out (by omega)).mono ?_
  rintro e wc ⟨a2, rfl, kO, _, bc⟩
  have babc := bab.trans (bc.mono bab.size)
  go_wp2_with fail
  refine (clone10 nA Mn c3 Nx _ (HSN.out.below babc) Z3.out (by omega)).mono ?_
  rintro e wd ⟨a3, rfl, kN, _, bd⟩
  have bel := babc.trans (bd.mono babc.size)
  have KW : Hid (Sl .u64 wd a0 n W) := ((kW.below bb).below bc).below bd
  have KH : Hid (Sl3 wd a1 Mn H) := (kH.below bc).below bd
  have KO : Hid (Sl .u64 wd a2 Mn O) := kO.below bd
  have KN : Hid (Sl .i64 wd a3 Mn Nx) := kN
  have BEL : Hid (Below w.heap.size w wd) := bel
  clear kW kH kO kN bb bab bc babc bd ba bel
  have HP : Hid (Prem W H O Nx) := hp
  have HUW : Hid (U64 W) := uW
  have HUO : Hid (U64 O) := uO
  clear hp uW uO HSW HSH HSO HSN
  go_wp2
  go_loop [13, 14, 15] (fun f t i => RelTop O lim Mn f t i) (fun _ _ i => Mn - (intOf i).toNat)
  case atStart => exact ⟨0, false, 0, rfl, by omega, rfl, rfl, by omega, by omega, top_zero O lim 0⟩
  case round =>
    obtain ⟨m, fb, tv, rfl, hm, rfl, rfl, tv0, tv1, hT⟩ := hrel
    have HTop : Hid (TopIs O lim m fb tv) := hT
    clear hT
    by_cases hlt : m < Mn
    · obtain ⟨bo, oo, rfl, hO⟩ := KO.out.row (by omega)
      obtain ⟨o, cO, HO⟩ : ∃ o, wd.cell? ⟨bo, oo + m, none⟩ = some (.int .u64 o) ∧ Hid (O.getD m 0 = o) := ⟨_, hO m hlt, rfl⟩
      have uo : 0 ≤ o ∧ o ≤ 18446744073709551615 := by rw [← HO.out]; exact HUO.out m
      clear hO
      by_cases hov : lim ≤ o
      · cases fb with
        | false =>
          have hN : Hid (TopIs O lim (m + 1) true o) := by have := top_take HTop.out (by rw [HO.out]; exact hov) (.inl rfl); rw [HO.out] at this; exact this
          go_wp2
          go_round
          case rel => exact ⟨m + 1, true, o, by go_num, by omega, rfl, rfl, by omega, by omega, hN.out⟩
          case measure => simp [intOf]; omega
        | true =>
          by_cases hgt : tv < o
          · have hN : Hid (TopIs O lim (m + 1) true o) := by have := top_take HTop.out (by rw [HO.out]; exact hov) (.inr (by rw [HO.out]; exact hgt)); rw [HO.out] at this; exact this
            go_wp2
            go_round
            case rel => exact ⟨m + 1, true, o, by go_num, by omega, rfl, rfl, by omega, by omega, hN.out⟩
            case measure => simp [intOf]; omega
          · have hN : Hid (TopIs O lim (m + 1) true tv) := top_keep HTop.out (by rw [HO.out]; exact hgt)
            go_wp2
            go_round
            case rel => exact ⟨m + 1, true, tv, by go_num, by omega, rfl, rfl, by omega, by omega, hN.out⟩
            case measure => simp [intOf]; omega
      · have dov : decide (lim ≤ o) = false := decide_eq_false hov
        have hN : Hid (TopIs O lim (m + 1) fb tv) := top_skip HTop.out (by rw [HO.out]; omega)
        go_wp2
        go_round
        case rel => exact ⟨m + 1, fb, tv, by go_num, by omega, rfl, rfl, by omega, by omega, hN.out⟩
        case measure => simp [intOf]; omega
    · have HTM : Hid (TopIs O lim Mn fb tv) := by have e : m = Mn := by omega
                                                  rw [← e]; exact HTop.out
      clear HTop
      go_wp2
      go_loop [16, 17] (fun b i => RelLow O fb lim tv Mn b i) (fun _ i => (intOf i + 1).toNat)
      case atStart => exact ⟨(Mn : Int) - 1, -1, rfl, by omega, by omega, rfl, by rw [show ((Mn : Int) - 1 + 1).toNat = Mn from by omega]; exact low_start O fb lim tv Mn⟩
      case round =>
        obtain ⟨x, k, rfl, hx0, hx1, rfl, hlow⟩ := hrel
        have HLow : Hid (LowIs O fb lim tv (x + 1).toNat Mn k) := hlow
        clear hlow
        by_cases hx : 0 ≤ x
        · obtain ⟨c, rfl⟩ := Int.eq_ofNat_of_zero_le hx
          obtain ⟨bo, oo, rfl, hO⟩ := KO.out.row (by omega)
          obtain ⟨o, cO, HO⟩ : ∃ o, wd.cell? ⟨bo, oo + c, none⟩ = some (.int .u64 o) ∧ Hid (O.getD c 0 = o) := ⟨_, hO c (by omega), rfl⟩
          have uo : 0 ≤ o ∧ o ≤ 18446744073709551615 := by rw [← HO.out]; exact HUO.out c
          have HLow' : Hid (LowIs O fb lim tv (c + 1) Mn k) := by have := HLow.out; rw [show ((c : Int) + 1).toNat = c + 1 from by omega] at this; exact this
          clear hO HLow
          by_cases hcond : fb = true ∧ lim ≤ O.getD c 0 ∧ O.getD c 0 = tv
          · have hN : Hid (LowIs O fb lim tv c Mn c) := low_take (b := k) (by omega) hcond
            obtain ⟨hc1, hc2, hc3⟩ := hcond
            rw [HO.out] at hc2 hc3
            subst hc1
            have hc3' : (o == tv) = true := by simp [hc3]
            clear hc3
            go_wp2
            go_round
            case rel => exact ⟨(c : Int) - 1, c, rfl, by omega, by omega, rfl, by rw [show ((c : Int) - 1 + 1).toNat = c from by omega]; exact hN.out⟩
            case measure => simp [intOf]
          · have hN : Hid (LowIs O fb lim tv c Mn k) := low_skip HLow'.out hcond
            rw [HO.out] at hcond
            cases fb with
            | false =>
              clear hcond
              go_wp2
              go_round
              case rel => exact ⟨(c : Int) - 1, k, rfl, by omega, by omega, rfl, by rw [show ((c : Int) - 1 + 1).toNat = c from by omega]; exact hN.out⟩
              case measure => simp [intOf]
            | true =>
              by_cases hc2 : lim ≤ o
              · have hc3' : (o == tv) = false := by
                  rw [beq_eq_false_iff_ne]; intro e; exact hcond ⟨rfl, hc2, e⟩
                clear hcond
                go_wp2
                go_round
                case rel => exact ⟨(c : Int) - 1, k, rfl, by omega, by omega, rfl, by rw [show ((c : Int) - 1 + 1).toNat = c from by omega]; exact hN.out⟩
                case measure => simp [intOf]
              · have hc2' : decide (lim ≤ o) = false := decide_eq_false hc2
                clear hcond
                go_wp2
                go_round
                case rel => exact ⟨(c : Int) - 1, k, rfl, by omega, by omega, rfl, by rw [show ((c : Int) - 1 + 1).toNat = c from by omega]; exact hN.out⟩
                case measure => simp [intOf]
        · have HBest : Hid (Best O lim Mn k) := low_best HTM.out (by have := HLow.out; rw [show (x + 1).toNat = 0 from by omega] at this; exact this)
          clear HLow HTM
          go_wp2
          go_loopw [18, 19, 20] (fun tt en i wr => RelTot W H O Nx lim Mn wd tt en i wr) (fun _ _ i _ => Mn - (intOf i).toNat)
          case atStart => exact ⟨0, 0, rfl, by omega, rfl, rfl, rfl⟩
          case round =>
            obtain ⟨m3, q, rfl, hm3, rfl, rfl, rfl⟩ := hrel
            obtain ⟨tm, HTM⟩ : ∃ t, Hid (tot W H O Nx lim m3 = t) := ⟨_, rfl⟩
            obtain ⟨em, HEM⟩ : ∃ b, Hid (ends W H O Nx lim m3 = b) := ⟨_, rfl⟩
            have htm : tm ≤ lens H m3 := by rw [← HTM.out]; exact tot_lens m3
            have htl : tm ≤ 131072 := by have := lens_mono (H := H) hm3; omega
            rw [HTM.out, HEM.out]
            by_cases hlt : m3 < Mn
            · obtain ⟨bo, oo, rfl, hO⟩ := KO.out.row (by omega)
              obtain ⟨bn, on, rfl, hN⟩ := KN.out.row (by omega)
              obtain ⟨bh, oh, rfl, hH⟩ := KH.out.row (by omega)
              obtain ⟨o, cO, HO⟩ : ∃ o, wd.cell? ⟨bo, oo + m3, none⟩ = some (.int .u64 o) ∧ Hid (O.getD m3 0 = o) := ⟨_, hO m3 hlt, rfl⟩
              have uo : 0 ≤ o ∧ o ≤ 18446744073709551615 := by rw [← HO.out]; exact HUO.out m3
              have HHN := (show Hid _ from hN)
              have HHH := (show Hid _ from hH)
              clear hO hN hH
              by_cases hov : o < lim
              · have hT1 : Hid (tot W H O Nx lim (m3 + 1) = tm) := by
                  have e : tot W H O Nx lim (m3 + 1) = tot W H O Nx lim m3 + (if lim ≤ O.getD m3 0 then need W H O Nx lim m3 else 0) := rfl
                  unfold Hid
                  rw [e, if_neg (by rw [HO.out]; omega), HTM.out, Nat.add_zero]
                have hE1 : Hid (ends W H O Nx lim (m3 + 1) = em) := by
                  have e : ends W H O Nx lim (m3 + 1) = (ends W H O Nx lim m3 || (decide (lim ≤ O.getD m3 0) && endl W H O Nx lim m3)) := rfl
                  unfold Hid
                  rw [e, HEM.out, decide_eq_false (by rw [HO.out]; omega)]; simp
                go_wp2
                go_roundw
                case rel => exact ⟨m3 + 1, q, by go_num, by omega, by rw [hT1.out], by rw [hE1.out], rfl⟩
                case measure => simp [intOf]; omega
              · obtain ⟨a, len, cH, hml, hform, hSl⟩ := HHH.out m3 hlt
                have hOl : O.length = Mn := KO.out.1
                obtain ⟨nx0, nx1⟩ := HP.out.nx m3 (by omega)
                obtain ⟨y, hy⟩ := Int.eq_ofNat_of_zero_le nx0
                have cN : wd.cell? ⟨bn, on + m3, none⟩ = some (.int .i64 y) := by rw [HHN.out m3 hlt, hy]
                have hyl : y ≤ len := by rw [hy, hSl.1] at nx1; omega
                have HAV : Hid (avail H Nx m3 = (H.getD m3 []).drop y) := by unfold Hid avail; rw [hy]; rfl
                have g0 : (0 : Int) ≤ (y : Int) := by omega
                have g1 : (y : Int) ≤ (len : Int) := by omega
                have g2 : (0 : Int) ≤ (m3 : Int) := by omega
                have g3 : (m3 : Int) < (Mn : Int) := by omega
                unfold maxLen at hml
                clear nx0 nx1 hy
                go_upto_region 33 with fail
                go_cut [21] (fun s w' => ∃ a2 L2 C2 q', s = .slice a2 L2 C2 ∧ Sl .i64 wd a2 L2 (avail H Nx m3) ∧ w' = wd.drewN q')
                case first =>
                  rcases hform with ⟨rfl, hl0⟩ | ⟨g, rfl⟩
                  · have hl1 : len ≤ 0 := by omega
                    clear hl0
                    go_quiet (fail)
                    go_wp2
                    all_goals go_meet
                    all_goals exact ⟨_, _, _, _, rfl, by rw [HAV.out]; exact av_none hSl hl1, by first | rfl | exact World.drewN_drewN _ _ _⟩
                  · go_quiet (fail)
                    go_wp2
                    · go_meet
                      case rel => exact ⟨_, _, _, _, rfl, by rw [HAV.out]; exact av_nil hSl (by omega), by first | rfl | exact World.drewN_drewN _ _ _⟩
                    · go_meet
                      case rel => exact ⟨_, _, _, _, rfl, by rw [HAV.out]; exact av_sl hSl hyl, by first | rfl | exact World.drewN_drewN _ _ _⟩
                case rest =>
                  obtain ⟨a2', L2, C2, q', rfl, hAv, rfl⟩ := hcut
                  have hav1 := hAv.1
                  have hsum := HP.out.sums m3 (by omega)
                  have hneed : Hid (need W H O Nx lim m3 = cnt W (avail H Nx m3) o lim L2) := by unfold Hid need; rw [hav1, HO.out]
                  have hendl : Hid (endl W H O Nx lim m3 = decide (lim ≤ o - psum W (avail H Nx m3) L2)) := by unfold Hid endl; rw [hav1, HO.out]
                  rw [hav1, HO.out] at hsum
                  have HOV : Hid (lim ≤ O.getD m3 0) := by unfold Hid; rw [HO.out]; omega
                  have hL2 : L2 ≤ 131072 := by
                    have h1 := lens_one (H := H) hlt
                    have h2 : L2 ≤ (H.getD m3 []).length := by rw [← hav1, HAV.out, List.length_drop]; omega
                    omega
                  have htc : tm + L2 ≤ 262144 := by omega
                  generalize avail H Nx m3 = av at *
                  have hps : ∀ j, j ≤ L2 → 0 ≤ psum W av j ∧ psum W av j ≤ o := fun j hj => ⟨psum_nonneg HUW.out.nonneg j, by have := psum_mono (W := W) (av := av) HUW.out.nonneg hj; omega⟩
                  have HPS := (show Hid _ from hps)
                  have HAvS : Hid (Sl .i64 wd a2' L2 av) := hAv
                  have KWq : Hid (Sl .u64 (wd.drewN q') a0 n W) := KW.out.below (below_drewN (Below.refl _ _) _)
                  clear hsum hav1 hps cH cN hSl hform hAv
                  go_wp2
                  go_loop [18, 22, 23] (fun tt pp i => ∃ j : Nat, i = .int .i64 j ∧ j ≤ L2 ∧ pp = .int .u64 (psum W av j) ∧ tt = .int .i64 ((tm : Int) + cnt W av o lim j)) (fun _ _ i => L2 - (intOf i).toNat)
                  case atStart => exact ⟨0, rfl, by omega, rfl, by show Value.int .i64 _ = Value.int .i64 ((tm : Int) + ((0 : Nat) : Int)); go_num⟩
                  case round =>
                    obtain ⟨j, rfl, hj, rfl, rfl⟩ := hrel
                    obtain ⟨p, HPj⟩ : ∃ p, Hid (psum W av j = p) := ⟨_, rfl⟩
                    obtain ⟨c, HCj⟩ : ∃ c, Hid (cnt W av o lim j = c) := ⟨_, rfl⟩
                    have hpb : 0 ≤ p ∧ p ≤ o := by rw [← HPj.out]; exact HPS.out j hj
                    have hcb : c ≤ j := by rw [← HCj.out]; exact cnt_le j
                    rw [HPj.out, HCj.out]
                    by_cases hjl : j < L2
                    · obtain ⟨b2', o2, rfl, hcv⟩ := HAvS.out.row (by omega)
                      obtain ⟨s, cS, HSj⟩ : ∃ s, wd.cell? ⟨b2', o2 + j, none⟩ = some (.int .i64 s) ∧ Hid (av.getD j 0 = s) := ⟨_, hcv j hjl, rfl⟩
                      obtain ⟨ws, HWS⟩ : ∃ v, Hid (wOf W s = v) := ⟨_, rfl⟩
                      have HP1 : Hid (psum W av (j + 1) = p + ws) := by
                        have e : psum W av (j + 1) = psum W av j + wOf W (av.getD j 0) := rfl
                        unfold Hid; rw [e, HPj.out, HSj.out, HWS.out]
                      have hws : 0 ≤ ws ∧ p + ws ≤ o := by
                        refine ⟨?_, ?_⟩
                        · rw [← HWS.out]; exact wOf_nonneg HUW.out.nonneg _
                        · rw [← HP1.out]; exact (HPS.out (j + 1) (by omega)).2
                      clear hcv
                      by_cases hc1 : lim ≤ o - p
                      · have HC1 : Hid (cnt W av o lim (j + 1) = c + 1) := by
                          have e : cnt W av o lim (j + 1) = cnt W av o lim j + (if lim ≤ o - psum W av j then 1 else 0) := rfl
                          unfold Hid; rw [e, HPj.out, if_pos hc1, HCj.out]
                        go_wp2_with (go_at_call 11; refine (wof11 a0 n n W s _ KWq.out (by omega)).mono ?_; rintro e w' ⟨rfl, rfl⟩; rw [HWS.out])
                        go_round
                        case rel => exact ⟨j + 1, by go_num, by omega, by rw [HP1.out], by rw [HC1.out]; go_num⟩
                        case measure => simp [intOf]; omega
                      · have HC1 : Hid (cnt W av o lim (j + 1) = c) := by
                          have e : cnt W av o lim (j + 1) = cnt W av o lim j + (if lim ≤ o - psum W av j then 1 else 0) := rfl
                          unfold Hid; rw [e, HPj.out, if_neg hc1, HCj.out, Nat.add_zero]
                        go_wp2_with (go_at_call 11; refine (wof11 a0 n n W s _ KWq.out (by omega)).mono ?_; rintro e w' ⟨rfl, rfl⟩; rw [HWS.out])
                        go_round
                        case rel => exact ⟨j + 1, by go_num, by omega, by rw [HP1.out], by rw [HC1.out]⟩
                        case measure => simp [intOf]; omega
                    · have hjL : j = L2 := by omega
                      have hT1 : Hid (tot W H O Nx lim (m3 + 1) = tm + c) := tot_next HTM.out HOV.out (by rw [hneed.out, ← hjL, HCj.out])
                      have hE1 : Hid (ends W H O Nx lim (m3 + 1) = (em || decide (lim ≤ o - p))) := by
                        have e : ends W H O Nx lim (m3 + 1) = (ends W H O Nx lim m3 || (decide (lim ≤ O.getD m3 0) && endl W H O Nx lim m3)) := rfl
                        unfold Hid
                        rw [e, HEM.out, decide_eq_true HOV.out, Bool.true_and, hendl.out, ← hjL, HPj.out]
                      clear hjL
                      by_cases hc1 : lim ≤ o - p
                      · have hE2 : Hid (ends W H O Nx lim (m3 + 1) = true) := by unfold Hid; rw [hE1.out, decide_eq_true hc1, Bool.or_true]
                        go_wp2
                        go_roundw
                        case rel => exact ⟨m3 + 1, q', by go_num, by omega, by rw [hT1.out]; go_num, by rw [hE2.out], rfl⟩
                        case measure => simp [intOf]; omega
                      · have hE2 : Hid (ends W H O Nx lim (m3 + 1) = em) := by unfold Hid; rw [hE1.out, decide_eq_false hc1, Bool.or_false]
                        go_wp2
                        go_roundw
                        case rel => exact ⟨m3 + 1, q', by go_num, by omega, by rw [hT1.out]; go_num, by rw [hE2.out], rfl⟩
                        case measure => simp [intOf]; omega
            · have hmM : m3 = O.length := by have := KO.out.1; omega
              have HTO : Hid (tot W H O Nx lim O.length = tm) := by unfold Hid; rw [← hmM]; exact HTM.out
              have HEO : Hid (ends W H O Nx lim O.length = em) := by unfold Hid; rw [← hmM]; exact HEM.out
              have HLO : Hid (O.length = Mn) := KO.out.1
              clear hmM
              have bq : Below wd.heap.size wd (wd.drewN q) := below_drewN (Below.refl _ _) _
              go_wp2_with fail
              refine (over12 W H O Nx lim d n Mn a0 a2 a1 a3 n Mn Mn Mn _ (KW.out.below bq) (KH.out.below bq) (KO.out.below bq) (KN.out.below bq) HP.out HUW.out HUO.out hl hd b1).mono ?_
              rintro e wf ⟨gm, gn, rfl, hov, hbf⟩
              have HF : Hid (Below w.heap.size w wf) := (below_drewN BEL.out q).trans (hbf.mono (below_drewN BEL.out q).size)
              have KOf : Hid (Sl .u64 wf a2 Mn O) := (KO.out.below bq).below hbf
              have HOV : Hid (OverIs W H O Nx lim d gm gn) := hov
              clear hov hbf bq
              by_cases hA : em = false ∧ tm ≤ d
              · obtain ⟨hbst, hgn⟩ := HOV.out.1 ⟨by rw [HEO.out]; exact hA.1, by rw [HTO.out]; exact hA.2⟩
                rw [HTO.out] at hgn
                rw [HLO.out] at hbst
                obtain rfl := hbst.unique HBest.out
                subst hgn
                obtain ⟨rfl, hA2⟩ := hA
                clear hbst
                go_wp2
                go_ret
                exact ⟨by simp, HF.out⟩
              · obtain ⟨hgn, hgm0, hgm1, hgm2⟩ := HOV.out.2 (by rw [HEO.out, HTO.out]; exact hA)
                subst hgn
                obtain ⟨gk, rfl⟩ := Int.eq_ofNat_of_zero_le hgm0
                rw [HLO.out] at hgm1
                obtain ⟨bo, oo, rfl, hO⟩ := KOf.out.row (by omega)
                obtain ⟨o, cO, HO⟩ : ∃ o, wf.cell? ⟨bo, oo + gk, none⟩ = some (.int .u64 o) ∧ Hid (O.getD gk 0 = o) := ⟨_, hO gk (by omega), rfl⟩
                have hlo : lim ≤ o := by rw [← HO.out]; exact hgm2
                clear hO hgm2 hgm0
                cases em with
                | true =>
                  clear hA
                  go_wp2
                  go_ret
                  exact ⟨by simp, HF.out⟩
                | false =>
                  have hA2 : d < tm := by
                    rcases Nat.lt_or_ge d tm with h | h
                    · exact h
                    · exact absurd ⟨rfl, h⟩ hA
                  clear hA
                  go_wp2
                  go_ret
                  exact ⟨by simp, HF.out⟩
end Go.Proofs.Qxb6600218a
