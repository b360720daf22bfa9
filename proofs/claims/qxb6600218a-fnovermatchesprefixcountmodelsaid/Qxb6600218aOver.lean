import Derived.Test.Qxb6600218aBase
namespace Go.Proofs.Qxb6600218a
open Go.RowKit
set_option linter.unusedVariables false

/-! ### The array of weights -/
theorem zero_u : ∀ v, isU0 v = true → v = .int .u64 0 := by
  intro v h
  unfold isU0 at h
  split at h
  · rw [beq_iff_eq] at h; rw [h]
  · simp at h
theorem zeros53 : ∃ zs : Array Value, (∀ w, (zeroValue 53).run Try.prog w = .ok (.agg zs) w) ∧ zs = ((List.replicate 16384 (0 : Int)).map (Value.int .u64)).toArray := by
  refine ⟨cellsOfZero Try.t53, zero53, ?_⟩
  obtain ⟨h1, h2⟩ := allZ_get all53
  apply Array.toList_inj.1
  rw [List.map_replicate]
  exact List.eq_replicate_iff.2 ⟨h1, fun v hv => zero_u v (h2 v hv)⟩

set_option maxHeartbeats 400000 in
theorem arr15 (ao : Option Addr) (n cap : Nat) (W : List Int) (w : World) (h : Sl .u64 w ao n W) (hn : n ≤ 16384) :
    Calls Try.prog 15 #[.slice ao n cap] w fun e w' => e = .returned (.pointer (some ⟨w.heap.size, 0, none⟩)) ∧ RowI w' w.heap.size 53 .u64 (W ++ List.replicate (16384 - n) 0) ∧ Below w.heap.size w w' := by
  obtain ⟨zs, hz, hzs⟩ := zeros53
  have hr : RowI (w.alloc (.cells zs 53)) w.heap.size 53 .u64 (List.replicate 16384 0) := by
    unfold RowI; rw [heap_alloc_new, hzs]
  obtain ⟨w1, hcp, hrow, hb1⟩ := run_copy_into (P := Try.prog) (w.alloc (.cells zs 53)) 22 25 3 53 .u64 w.heap.size 16384 16384 ao n cap W ((List.replicate 16384 0).map (Value.int .u64)) Try.underlying22 Try.size25 hr h.1 hn (by rw [List.length_map, List.length_replicate]; exact hn) (copy_src h ((Below.refl _ _).alloc (Nat.le_refl _) _)) w.heap.size w ((Below.refl _ _).alloc (Nat.le_refl _) _) (Nat.le_refl _)
  have hrow' : RowI w1 w.heap.size 53 .u64 (W ++ List.replicate (16384 - n) 0) := by
    unfold RowI; rw [hrow, List.map_append, ← List.map_drop, List.drop_replicate]
  have HR : Hid (RowI w1 w.heap.size 53 .u64 (W ++ List.replicate (16384 - n) 0)) := hrow'
  clear hrow hrow' hr hzs
  go_enter Try.func15, Try.ntmps15
  go_wp2
  go_ret
  exact ⟨rfl, HR.out, hb1⟩

/-! ### The search's struct -/
theorem zeros48 : ∃ zs : Array Value, (∀ w, (zeroValue 48).run Try.prog w = .ok (.agg zs) w) ∧ zs.size = 16395 :=
  ⟨cellsOfZero Try.t48, fun w => by kernel_rfl, by
    have h : allZ (fun _ => true) (cellsOfZero Try.t48).toList 16395 = true := by kernel_rfl
    exact (allZ_get h).1⟩

/-- The premise of the law, on the data. -/
structure Prem (W : List Int) (H : List (List Int)) (O Nx : List Int) : Prop where
  lenW : W.length ≤ 16384
  lenH : H.length = O.length
  lenN : Nx.length = O.length
  nx : ∀ m, m < O.length → 0 ≤ Nx.getD m 0 ∧ Nx.getD m 0 ≤ (H.getD m []).length
  slots : ∀ m, m < O.length → ∀ j, j < (H.getD m []).length → 0 ≤ (H.getD m []).getD j 0 ∧ (H.getD m []).getD j 0 < 16384
  sums : ∀ m, m < O.length → psum W (avail H Nx m) (avail H Nx m).length ≤ O.getD m 0
/-- Numbers that a uint64 holds. -/
def U64 (l : List Int) : Prop := ∀ i, 0 ≤ l.getD i 0 ∧ l.getD i 0 ≤ 18446744073709551615
theorem U64.nonneg {l : List Int} (h : U64 l) : Nonneg l := fun i => (h i).1

/-- The search in memory: the struct in block pc, the balancer in pb, the array of weights in pa. -/
structure Srch (w : World) (W : List Int) (H : List (List Int)) (O Nx : List Int) (lim : Int) (pc pb pa M : Nat) (ofA hA nA : Option Addr) (c1 c2 c3 : Nat) : Prop where
  b : w.cell? ⟨pc, 0, none⟩ = some (.pointer (some ⟨pb, 0, none⟩))
  lim : w.cell? ⟨pc, 1, none⟩ = some (.int .u64 lim)
  of : w.cell? ⟨pc, 4, none⟩ = some (.slice ofA M c1)
  nx : w.cell? ⟨pc, 6, none⟩ = some (.slice nA M c2)
  arr : w.cell? ⟨pb, 0, none⟩ = some (.pointer (some ⟨pa, 0, none⟩))
  held : w.cell? ⟨pb, 16389, none⟩ = some (.slice hA M c3)
  row : RowI w pa 53 .u64 (W ++ List.replicate (16384 - W.length) 0)
  sO : Sl .u64 w ofA M O
  sN : Sl .i64 w nA M Nx
  sH : Sl3 w hA M H
theorem Srch.weigh {w : World} {W : List Int} {H : List (List Int)} {O Nx : List Int} {lim : Int} {pc pb pa M : Nat} {ofA hA nA : Option Addr} {c1 c2 c3 : Nat} (h : Srch w W H O Nx lim pc pb pa M ofA hA nA c1 c2 c3) (hW : W.length ≤ 16384) (s : Nat) (hs : s < 16384) : w.cell? ⟨pa, s, none⟩ = some (.int .u64 (wOf W s)) := by
  rw [h.row.cell s (by rw [List.length_append, List.length_replicate]; omega)]
  unfold wOf
  by_cases hlt : s < W.length
  · rw [if_pos (by omega), List.getD_eq_getElem?_getD, List.getElem?_append_left hlt]; rfl
  · rw [if_neg (by omega), List.getD_eq_getElem?_getD, List.getElem?_append_right (by omega), List.getElem?_replicate, if_pos (by omega)]; rfl

theorem tot_next {W : List Int} {H : List (List Int)} {O Nx : List Int} {lim : Int} {m t c : Nat} (h1 : tot W H O Nx lim m = t) (h2 : lim ≤ O.getD m 0) (h3 : need W H O Nx lim m = c) : tot W H O Nx lim (m + 1) = t + c := by
  have e : tot W H O Nx lim (m + 1) = tot W H O Nx lim m + (if lim ≤ O.getD m 0 then need W H O Nx lim m else 0) := rfl
  rw [e, if_pos h2, h1, h3]
theorem ends_next {W : List Int} {H : List (List Int)} {O Nx : List Int} {lim : Int} {m : Nat} (h1 : ends W H O Nx lim m = false) (h2 : endl W H O Nx lim m = false) : ends W H O Nx lim (m + 1) = false := by
  have e : ends W H O Nx lim (m + 1) = (ends W H O Nx lim m || (decide (lim ≤ O.getD m 0) && endl W H O Nx lim m)) := rfl
  rw [e, h1, h2]; simp
theorem av_nil {w : World} {a a2 : Option Addr} {len x : Nat} {l : List Int} (h : Sl .i64 w a len l) (hx : len ≤ x) : Sl .i64 w a2 0 (l.drop x) :=
  ⟨by rw [List.length_drop, h.1]; omega, .inl rfl⟩
theorem av_none {w : World} {a a2 : Option Addr} {len x : Nat} {l : List Int} (h : Sl .i64 w a len l) (hl : len ≤ 0) : Sl .i64 w a2 (len - x) (l.drop x) :=
  ⟨by rw [List.length_drop, h.1], .inl (by omega)⟩
/-- What the premise says of what master m may still give. -/
theorem Prem.av {W : List Int} {H : List (List Int)} {O Nx : List Int} (hp : Prem W H O Nx) {m : Nat} (hm : m < O.length) (j : Nat) (hj : j < (avail H Nx m).length) : 0 ≤ (avail H Nx m).getD j 0 ∧ (avail H Nx m).getD j 0 < 16384 := by
  unfold avail at hj ⊢
  rw [List.length_drop] at hj
  have := hp.slots m hm ((Nx.getD m 0).toNat + j) (by omega)
  simpa only [List.getD_eq_getElem?_getD, List.getElem?_drop] using this
theorem av_sl {w : World} {g len x : Nat} {l : List Int} (h : Sl .i64 w (some ⟨g, 0, none⟩) len l) (hx : x ≤ len) : Sl .i64 w (some ⟨g, x, none⟩) (len - x) (l.drop x) := by
  refine ⟨by rw [List.length_drop, h.1], ?_⟩
  by_cases h0 : len - x = 0
  · exact .inl h0
  · obtain ⟨b, off, e, hc⟩ := h.row (by omega)
    obtain ⟨rfl, rfl⟩ : g = b ∧ 0 = off := by simpa using e
    refine .inr ⟨g, x, rfl, fun i hi => ?_⟩
    have := hc (x + i) (by omega)
    rw [Nat.zero_add] at this
    rw [this]
    simp only [List.getD_eq_getElem?_getD, List.getElem?_drop]

set_option maxHeartbeats 2000000 in
set_option maxRecDepth 100000 in
theorem over16 (W : List Int) (H : List (List Int)) (O Nx : List Int) (lim : Int) (d pc pb pa M : Nat) (ofA hA nA : Option Addr) (c1 c2 c3 : Nat) (w : World) (hs : Srch w W H O Nx lim pc pb pa M ofA hA nA c1 c2 c3) (hp : Prem W H O Nx) (uW : U64 W) (uO : U64 O) (hl : 0 ≤ lim ∧ lim ≤ 18446744073709551615) (hd : d ≤ 1073741824) (hM : M ≤ 131072) :
    Calls Try.prog 16 #[.pointer (some ⟨pc, 0, none⟩), .int .i64 d] w fun e w' => ∃ gm gn, e = .returned (.tuple #[.int .i64 gm, .int .i64 gn]) ∧ OverIs W H O Nx lim d gm gn ∧ Below w.heap.size w w' := by
  have hOl := hs.sO.1
  have r1 := hs.b
  have r2 := hs.lim
  have r3 := hs.of
  have r4 := hs.nx
  have r5 := hs.arr
  have r6 := hs.held
  go_enter Try.func16, Try.ntmps16
  go_wp2
  go_loopw [4, 5, 18] (fun b nd i wr => ∃ (m q : Nat) (k : Int), i = .int .i64 m ∧ m ≤ M ∧ b = .int .i64 k ∧ Best O lim m k ∧ nd = .int .i64 (tot W H O Nx lim m) ∧ tot W H O Nx lim m ≤ d + 1 ∧ ends W H O Nx lim m = false ∧ wr = w.drewN q) (fun _ _ i _ => M - (intOf i).toNat)
  case atStart => exact ⟨0, 0, -1, rfl, by omega, rfl, best_zero, rfl, by show 0 ≤ _; omega, rfl, rfl⟩
  case round =>
    obtain ⟨m, q, k, rfl, hm, rfl, hbest, rfl, htot, hends, rfl⟩ := hrel
    by_cases hlt : m < M
    · obtain ⟨bo, oo, rfl, hO⟩ := hs.sO.row (by omega)
      obtain ⟨bn, on, rfl, hN⟩ := hs.sN.row (by omega)
      obtain ⟨bh, oh, rfl, hH⟩ := hs.sH.row (by omega)
      obtain ⟨o, cO, HO⟩ : ∃ o, w.cell? ⟨bo, oo + m, none⟩ = some (.int .u64 o) ∧ Hid (O.getD m 0 = o) := ⟨_, hO m hlt, rfl⟩
      have uo : 0 ≤ o ∧ o ≤ 18446744073709551615 := by rw [← HO.out]; exact uO m
      have HHO := (show Hid _ from hO)
      have HHN := (show Hid _ from hN)
      have HHH := (show Hid _ from hH)
      have HB : Hid (Best O lim m k) := hbest
      have HT : Hid (tot W H O Nx lim m ≤ d + 1) := htot
      have HE : Hid (ends W H O Nx lim m = false) := hends
      obtain ⟨t, HTT⟩ : ∃ t, Hid (tot W H O Nx lim m = t) := ⟨_, rfl⟩
      have ht1 : t ≤ d + 1 := by rw [← HTT.out]; exact htot
      clear hO hN hH hbest htot hends
      by_cases hov : o < lim
      · have hT1 : Hid (tot W H O Nx lim (m + 1) = t) := by
          have e : tot W H O Nx lim (m + 1) = tot W H O Nx lim m + (if lim ≤ O.getD m 0 then need W H O Nx lim m else 0) := rfl
          unfold Hid
          rw [e, if_neg (by rw [HO.out]; omega), HTT.out, Nat.add_zero]
        have hE1 : Hid (ends W H O Nx lim (m + 1) = false) := by
          have e : ends W H O Nx lim (m + 1) = (ends W H O Nx lim m || (decide (lim ≤ O.getD m 0) && endl W H O Nx lim m)) := rfl
          unfold Hid
          rw [e, HE.out, decide_eq_false (by rw [HO.out]; omega)]; rfl
        have hB1 : Hid (Best O lim (m + 1) k) := best_skip HB.out (by rw [HO.out]; exact hov)
        rw [HTT.out]
        go_wp2
        go_roundw
        case rel => exact ⟨m + 1, _, k, by go_num, by omega, rfl, hB1.out, by rw [hT1.out], by rw [hT1.out]; exact ht1, hE1.out, rfl⟩
        case measure => simp [intOf]; omega
      · rw [HTT.out]
        go_upto_region 6 with fail
        obtain ⟨upd, hupd⟩ : ∃ upd : Bool, Hid ((upd = true → Best O lim (m + 1) m) ∧ (upd = false → Best O lim (m + 1) k) ∧ upd = (decide (k < 0) || decide (O.getD k.toNat 0 < o))) := by
          refine ⟨_, ?_, ?_, rfl⟩
          · intro h
            simp only [Bool.or_eq_true, decide_eq_true_eq] at h
            by_cases hk : k < 0
            · exact best_first HB.out hk (by rw [HO.out]; omega)
            · obtain ⟨k', rfl⟩ := Int.eq_ofNat_of_zero_le (by omega : 0 ≤ k)
              exact best_more HB.out (by rw [HO.out]; omega) (by rw [HO.out]; rcases h with h | h; exact absurd h hk; exact h)
          · intro h
            simp only [Bool.or_eq_false_iff, decide_eq_false_iff_not] at h
            obtain ⟨k', rfl⟩ := Int.eq_ofNat_of_zero_le (by omega : 0 ≤ k)
            exact best_same HB.out (by rw [HO.out]; omega) (by rw [HO.out]; exact h.2)
        go_cut [42] (fun s w' => s = .bool upd ∧ w' = w.drewN q)
        case first =>
          by_cases hk : k < 0
          · have hu : Hid (upd = true) := by unfold Hid; rw [hupd.out.2.2, decide_eq_true hk]; rfl
            go_wp2
            go_meet
            case rel => exact ⟨by rw [hu.out], rfl⟩
          · obtain ⟨k', rfl⟩ := Int.eq_ofNat_of_zero_le (by omega : 0 ≤ k)
            have hd0 : decide ((k' : Int) < 0) = false := decide_eq_false hk
            have hkm : k' < M := by
              rcases HB.out with ⟨h, _⟩ | ⟨l, h, h2, _⟩ <;> omega
            obtain ⟨ok, cK, HK⟩ : ∃ x, w.cell? ⟨bo, oo + k', none⟩ = some (.int .u64 x) ∧ Hid (O.getD k' 0 = x) := ⟨_, HHO.out k' hkm, rfl⟩
            have hu : Hid (upd = decide (ok < o)) := by unfold Hid; rw [hupd.out.2.2, hd0, Bool.false_or, ← HK.out]; rfl
            clear hk
            go_wp2
            go_meet
            case rel => exact ⟨by rw [hu.out], rfl⟩
        case rest =>
          obtain ⟨rfl, rfl⟩ := hcut
          go_upto_if 42 with fail
          go_cut [4] (fun s w' => ∃ k', s = .int .i64 k' ∧ Best O lim (m + 1) k' ∧ w' = w.drewN q)
          case first =>
            cases upd with
            | true =>
              go_wp2
              go_meet
              case rel => exact ⟨m, rfl, hupd.out.1 (by first | trivial | rfl), rfl⟩
            | false =>
              go_wp2
              go_meet
              case rel => exact ⟨k, rfl, hupd.out.2.1 (by first | trivial | rfl), rfl⟩
          case rest =>
            obtain ⟨k', rfl, hbest, rfl⟩ := hcut
            have HB1 : Hid (Best O lim (m + 1) k') := hbest
            clear hbest hupd
            obtain ⟨a, len, cH, hml, hform, hSl⟩ := HHH.out m hlt
            obtain ⟨nx0, nx1⟩ := hp.nx m (by omega)
            obtain ⟨x, hx⟩ := Int.eq_ofNat_of_zero_le nx0
            have cN : w.cell? ⟨bn, on + m, none⟩ = some (.int .i64 x) := by rw [HHN.out m hlt, hx]
            have hxl : x ≤ len := by rw [hx, hSl.1] at nx1; omega
            have HAV : Hid (avail H Nx m = (H.getD m []).drop x) := by unfold Hid avail; rw [hx]; rfl
            have b0 : (0 : Int) ≤ (x : Int) := by omega
            have b1 : (x : Int) ≤ (len : Int) := by omega
            have b2 : (0 : Int) ≤ (m : Int) := by omega
            have b3 : (m : Int) < (M : Int) := by omega
            unfold maxLen at hml
            clear nx0 nx1 hx
            go_wp2
            go_cut [9] (fun s w' => ∃ a2 L2 C2 q', s = .slice a2 L2 C2 ∧ Sl .i64 w a2 L2 (avail H Nx m) ∧ w' = w.drewN q')
            case first =>
              rcases hform with ⟨rfl, hl0⟩ | ⟨g, rfl⟩
              · have hl1 : len ≤ 0 := by omega
                clear hl0
                go_quiet (fail)
                go_wp2
                all_goals go_meet
                all_goals exact ⟨_, _, _, _, rfl, by rw [HAV.out]; exact av_none hSl hl1, by first | rfl | exact World.drewN_drewN _ _ _⟩
              · go_quiet (fail)
                go_wp2
                · go_meet
                  case rel => exact ⟨_, _, _, _, rfl, by rw [HAV.out]; exact av_nil hSl (by omega), rfl⟩
                · go_meet
                  case rel => exact ⟨_, _, _, _, rfl, by rw [HAV.out]; exact av_sl hSl hxl, rfl⟩
            case rest =>
              obtain ⟨a2, L2, C2, q', rfl, hAv, rfl⟩ := hcut
              have hav1 := hAv.1
              have hsum := hp.sums m (by omega)
              have hslot := hp.av (m := m) (by omega)
              have hneed : Hid (need W H O Nx lim m = cnt W (avail H Nx m) o lim L2) := by unfold Hid need; rw [hav1, HO.out]
              have hendl : Hid (endl W H O Nx lim m = decide (lim ≤ o - psum W (avail H Nx m) L2)) := by unfold Hid endl; rw [hav1, HO.out]
              rw [hav1, HO.out] at hsum
              rw [hav1] at hslot
              have HOV : Hid (lim ≤ O.getD m 0) := by unfold Hid; rw [HO.out]; omega
              generalize avail H Nx m = av at *
              have HSUM : Hid (psum W av L2 ≤ o) := hsum
              have HSLOT := (show Hid _ from hslot)
              have HAV1 : Hid (av.length = L2) := hav1
              have hps : ∀ j, j ≤ L2 → 0 ≤ psum W av j ∧ psum W av j ≤ o := fun j hj => ⟨psum_nonneg uW.nonneg j, by have := psum_mono (W := W) (av := av) uW.nonneg hj; have := HSUM.out; omega⟩
              have HPS := (show Hid _ from hps)
              have hL2 : L2 ≤ 9223372036854775807 := by have := hSl.1; rw [← HAV1.out, HAV.out, List.length_drop]; omega
              clear hsum hslot hav1 hps cH cN hSl hform
              go_wp2
              go_loop [5, 8, 64] (fun nd sh i => ∃ j : Nat, i = .int .i64 j ∧ j ≤ L2 ∧ sh = .int .u64 (psum W av j) ∧ nd = .int .i64 ((t : Int) + j) ∧ t + j ≤ d + 1 ∧ Hid (∀ i, i < j → lim ≤ o - psum W av i)) (fun _ _ i => L2 - (intOf i).toNat)
              case atStart => exact ⟨0, rfl, by omega, rfl, by go_num, by omega, fun i hi => by omega⟩
              case round =>
                obtain ⟨j, rfl, hj, rfl, rfl, htj, hall⟩ := hrel
                obtain ⟨p, HP⟩ : ∃ p, Hid (psum W av j = p) := ⟨_, rfl⟩
                have hpb : 0 ≤ p ∧ p ≤ o := by rw [← HP.out]; exact HPS.out j hj
                rw [HP.out]
                by_cases hjl : j < L2
                · obtain ⟨b2, o2, rfl, hcv⟩ := hAv.row (by omega)
                  obtain ⟨sl0, sl1⟩ := HSLOT.out j hjl
                  obtain ⟨sn, hsn⟩ := Int.eq_ofNat_of_zero_le sl0
                  have cS : w.cell? ⟨b2, o2 + j, none⟩ = some (.int .i64 sn) := by rw [hcv j hjl, hsn]
                  have hsn2 : sn < 16384 := by omega
                  obtain ⟨ws, cW, HWS⟩ : ∃ v, w.cell? ⟨pa, sn, none⟩ = some (.int .u64 v) ∧ Hid (wOf W sn = v) := ⟨_, hs.weigh hp.lenW sn hsn2, rfl⟩
                  have HP1 : Hid (psum W av (j + 1) = p + ws) := by
                    have e : psum W av (j + 1) = psum W av j + wOf W (av.getD j 0) := rfl
                    unfold Hid; rw [e, HP.out, hsn, ← HWS.out]
                  have hws : 0 ≤ ws ∧ p + ws ≤ o := by
                    refine ⟨?_, ?_⟩
                    · rw [← HWS.out]; exact wOf_nonneg uW.nonneg _
                    · rw [← HP1.out]; exact (HPS.out (j + 1) (by omega)).2
                  clear hcv sl0 sl1 hsn
                  by_cases hc1 : o - p < lim
                  · have hnd : Hid (need W H O Nx lim m = j) := by
                      unfold Hid
                      rw [hneed.out, cnt_stop uW.nonneg (j := j) (by rw [HP.out]; exact hc1) hj]
                      exact cnt_all hall.out
                    have hT1 : Hid (tot W H O Nx lim (m + 1) = t + j) := tot_next HTT.out HOV.out hnd.out
                    have hE1 : Hid (ends W H O Nx lim (m + 1) = false) := ends_next HE.out (by rw [hendl.out]; exact decide_eq_false (by have := psum_mono (W := W) (av := av) uW.nonneg hj; rw [HP.out] at this; omega))
                    go_wp2
                    go_roundw
                    case rel => exact ⟨m + 1, q', k', by go_num, by omega, rfl, HB1.out, by rw [hT1.out]; go_num, by rw [hT1.out]; exact htj, hE1.out, rfl⟩
                    case measure => simp [intOf]; omega
                  · have hc1' : decide (o - p < lim) = false := decide_eq_false hc1
                    have hall2 : Hid (∀ i, i < j + 1 → lim ≤ o - psum W av i) := fun i hi => by
                      by_cases e : i = j
                      · rw [e, HP.out]; omega
                      · exact hall.out i (by omega)
                    by_cases hc2 : d < t + j
                    · have hov2 : Hid (OverIs W H O Nx lim d k' (d + 1)) := over_early (m := m) (by omega) HB1.out HOV.out (.inr (by
                        have h1 := cnt_all hall2.out
                        have h2 := cnt_mono (W := W) (av := av) (o := o) (lim := lim) (show j + 1 ≤ L2 by omega)
                        rw [HTT.out, hneed.out]; omega))
                      go_wp2
                      go_ret2
                      exact ⟨_, _, rfl, hov2.out, below_drewN (Below.refl _ _) _⟩
                    · go_wp2
                      go_round
                      case rel => exact ⟨j + 1, by go_num, by omega, by rw [HP1.out], by go_num, by omega, hall2⟩
                      case measure => simp [intOf]; omega
                · by_cases hc1 : o - p < lim
                  · have hjL : j = L2 := by omega
                    have hnd : Hid (need W H O Nx lim m = j) := by
                      unfold Hid
                      rw [hneed.out, ← hjL]
                      exact cnt_all hall.out
                    have hT1 : Hid (tot W H O Nx lim (m + 1) = t + j) := tot_next HTT.out HOV.out hnd.out
                    have hE1 : Hid (ends W H O Nx lim (m + 1) = false) := ends_next HE.out (by rw [hendl.out, ← hjL, HP.out]; exact decide_eq_false (by omega))
                    clear hjL
                    go_wp2
                    go_roundw
                    case rel => exact ⟨m + 1, q', k', by go_num, by omega, rfl, HB1.out, by rw [hT1.out]; go_num, by rw [hT1.out]; exact htj, hE1.out, rfl⟩
                    case measure => simp [intOf]; omega
                  · have hjL : j = L2 := by omega
                    have hov2 : Hid (OverIs W H O Nx lim d k' (d + 1)) := over_early (m := m) (by omega) HB1.out HOV.out (.inl (by
                      rw [hendl.out, ← hjL, HP.out]; exact decide_eq_true (by omega)))
                    clear hjL
                    go_wp2
                    go_ret2
                    exact ⟨_, _, rfl, hov2.out, below_drewN (Below.refl _ _) _⟩
    · have hmM : m = O.length := by omega
      have hov : Hid (OverIs W H O Nx lim d k (tot W H O Nx lim m)) := by
        unfold Hid
        rw [hmM] at hbest htot hends ⊢
        exact over_end hbest hends htot
      clear hmM
      go_wp2
      go_ret2
      exact ⟨_, _, rfl, hov.out, below_drewN (Below.refl _ _) _⟩
end Go.Proofs.Qxb6600218a
