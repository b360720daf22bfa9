import Derived.Test.Qxb6001681aBase
import Derived.Test.Qxb6001681aTable
namespace Go.Proofs.Qxb6001681a
open Go.RowKit
set_option linter.unusedVariables false

/-- The table in the making: a row of T numbers in block g; where P holds, they are the table's. -/
def Tab (A B : List Int) (n m W T g : Nat) (w : World) (P : Nat → Nat → Prop) : Prop := ∃ l, RowI w g 3 .i64 l ∧ l.length = T ∧ Kn A B n m W l P

theorem Tab.mono {A B : List Int} {n m W T g : Nat} {w : World} {P Q : Nat → Nat → Prop} (h : Tab A B n m W T g w P) (hPQ : ∀ i j, i ≤ n → j ≤ m → Q i j → P i j) : Tab A B n m W T g w Q := by
  obtain ⟨l, h1, h2, h3⟩ := h
  exact ⟨l, h1, h2, h3.mono hPQ⟩
theorem Tab.start (A B : List Int) (n m W T : Nat) (w : World) : Tab A B n m W T w.heap.size (w.alloc (.cells (madeCells #[.int .i64 0] T) 3)) (fun _ _ => False) :=
  ⟨_, rowI_made w 3 .i64 T, by simp, fun _ _ _ _ h => h.elim⟩
theorem Tab.set {A B : List Int} {n m W T g : Nat} {w : World} {P : Nat → Nat → Prop} (h : Tab A B n m W T g w P) (hW : W = m + 1) (hT : T = (n + 1) * W) (i j x : Nat) (v : Int) (hi : i ≤ n) (hj : j ≤ m) (hx : x = i * W + j) (hv : v = D A B i j) :
    Tab A B n m W T g (w.setCell ⟨g, x, none⟩ (.int .i64 v)) (fun i' j' => P i' j' ∨ (i' = i ∧ j' = j)) := by
  obtain ⟨l, h1, h2, h3⟩ := h
  exact ⟨_, h1.set x v, by simpa using h2, h3.set (by omega) (by omega) i j x v hi hj hx hv⟩
/-- A cell of the table may be written: there is one, and it is not frozen. -/
theorem Tab.there {A B : List Int} {n m W T g : Nat} {w : World} {P : Nat → Nat → Prop} (h : Tab A B n m W T g w P) (x : Nat) (hx : x < T) : (∃ v, w.cell? ⟨g, x, none⟩ = some (.int .i64 v)) ∧ w.frozen? ⟨g, x, none⟩ = false := by
  obtain ⟨l, h1, h2, h3⟩ := h
  exact ⟨⟨_, h1.cell x (by omega)⟩, h1.frozen x⟩
/-- A cell of the table that is known. -/
theorem Tab.known {A B : List Int} {n m W T g : Nat} {w : World} {P : Nat → Nat → Prop} (h : Tab A B n m W T g w P) (hW : W = m + 1) (hT : T = (n + 1) * W) (i j x : Nat) (hi : i ≤ n) (hj : j ≤ m) (hx : x = i * W + j) (hp : P i j) : w.cell? ⟨g, x, none⟩ = some (.int .i64 (D A B i j)) := by
  obtain ⟨l, h1, h2, h3⟩ := h
  have := idx_lt (W := W) hi (by omega : j < W)
  rw [h1.cell x (by omega), hx, h3 i j hi hj hp]

set_option maxHeartbeats 4000000 in
set_option maxRecDepth 100000 in
theorem osa18 (A B : List Int) (ao bo : Option Addr) (n m : Nat) (w : World) (hA : Txt w ao n A) (hB : Txt w bo m B) (hn : n ≤ 1024) (hm : m ≤ 1024) :
    Calls Try.prog 18 #[.slice ao n n, .slice bo m m] w fun e w' => e = .returned (.int .i64 (D A B n m)) ∧ Below w.heap.size w w' := by
  obtain ⟨W, hW⟩ : ∃ W, W = m + 1 := ⟨_, rfl⟩
  obtain ⟨T, hT⟩ : ∃ T, T = (n + 1) * W := ⟨_, rfl⟩
  have hTb : T ≤ 1050625 := by
    rw [hT, hW]
    exact Nat.mul_le_mul (by omega : n + 1 ≤ 1025) (by omega : m + 1 ≤ 1025)
  have rW : (m : Int) + 1 = (W : Int) := by omega
  have rT : ((n : Int) + 1) * (W : Int) = (T : Int) := by rw [hT]; push_cast; rfl
  have HW : Hid (W = m + 1) := hW
  have HT : Hid (T = (n + 1) * W) := hT
  have hmk := run_make_row' (P := Try.prog) 22 3 (.int .i64 0) 8 Try.underlying22 Try.info3 rfl .i64 .i64 T (by omega) (by omega)
  clear hW hT
  go_enter Try.func18, Try.ntmps18
  go_wp2
  go_loopw [7] (fun i wr => ∃ k : Nat, i = .int .i64 k ∧ k ≤ n + 1 ∧ Below w.heap.size w wr ∧ Tab A B n m W T w.heap.size wr (fun i' j' => j' = 0 ∧ i' < k)) (fun i _ => n + 1 - (intOf i).toNat)
  case atStart => exact ⟨0, rfl, by omega, (Below.refl _ _).alloc (Nat.le_refl _) _, (Tab.start A B n m W T w).mono fun i' j' _ _ h => by omega⟩
  case round =>
    obtain ⟨k, rfl, hk, hb, ht⟩ := hrel
    by_cases hlt : k ≤ n
    · obtain ⟨x, hx⟩ : ∃ x, x = k * W := ⟨_, rfl⟩
      have rx : (k : Int) * (W : Int) = (x : Int) := by rw [hx]; push_cast; rfl
      have hxT : x < T := by have := idx_lt (W := W) hlt (by have := HW.out; omega : 0 < W); have := HT.out; omega
      obtain ⟨⟨v0, c0⟩, f0⟩ := ht.there x hxT
      have ht' := ht.set HW.out HT.out k 0 x k hlt (by omega) (by omega) (by rw [D_left])
      have HX : Hid (x = k * W) := hx
      clear hx
      go_wp2
      go_roundw
      case rel => exact ⟨k + 1, by go_num, by omega, hb.setCell (Nat.le_refl _) _, ht'.mono fun i' j' _ _ h => by omega⟩
      case measure => simp [intOf]; omega
    · have ht2 := ht.mono (Q := fun i' j' => j' = 0 ∨ (i' = 0 ∧ j' < 0)) fun i' j' h1 h2 h => by omega
      clear ht
      go_wp2
      go_loopw [8] (fun j wr => ∃ k : Nat, j = .int .i64 k ∧ k ≤ m + 1 ∧ Below w.heap.size w wr ∧ Tab A B n m W T w.heap.size wr (fun i' j' => j' = 0 ∨ (i' = 0 ∧ j' < k))) (fun j _ => m + 1 - (intOf j).toNat)
      case atStart => exact ⟨0, rfl, by omega, hb, ht2⟩
      case round =>
        clear ht2 hb
        obtain ⟨q, rfl, hq, hb, ht⟩ := hrel
        by_cases hlt : q ≤ m
        · have hqT : q < T := by have := idx_lt (n := n) (W := W) (i := 0) (j := q) (by omega) (by have := HW.out; omega); have := HT.out; omega
          obtain ⟨⟨v0, c0⟩, f0⟩ := ht.there q hqT
          have ht' := ht.set HW.out HT.out 0 q q q (by omega) hlt (by omega) (by rw [D_zero])
          go_wp2
          go_roundw
          case rel => exact ⟨q + 1, by go_num, by omega, hb.setCell (Nat.le_refl _) _, ht'.mono fun i' j' _ _ h => by omega⟩
          case measure => simp [intOf]; omega
        · have ht2 := ht.mono (Q := fun i' j' => i' < 1 ∨ j' = 0) fun i' j' h1 h2 h => by omega
          clear ht
          go_wp2
          go_loopw [9] (fun i wr => ∃ k : Nat, i = .int .i64 k ∧ 1 ≤ k ∧ k ≤ n + 1 ∧ Below w.heap.size w wr ∧ Tab A B n m W T w.heap.size wr (fun i' j' => i' < k ∨ j' = 0)) (fun i _ => n + 1 - (intOf i).toNat)
          case atStart => exact ⟨1, rfl, by omega, by omega, hb, ht2⟩
          case round =>
            clear ht2 hb
            obtain ⟨i, rfl, hi1, hi2, hb, ht⟩ := hrel
            by_cases hlt : i ≤ n
            · have ht2 := ht.mono (Q := fun i' j' => i' < i ∨ j' = 0 ∨ (i' = i ∧ j' < 1)) fun i' j' h1 h2 h => by omega
              clear ht
              go_wp2
              go_loopw [10] (fun j wr => ∃ k : Nat, j = .int .i64 k ∧ 1 ≤ k ∧ k ≤ m + 1 ∧ Below w.heap.size w wr ∧ Tab A B n m W T w.heap.size wr (fun i' j' => i' < i ∨ j' = 0 ∨ (i' = i ∧ j' < k))) (fun j _ => m + 1 - (intOf j).toNat)
              case atStart => exact ⟨1, rfl, by omega, by omega, hb, ht2⟩
              case round =>
                clear ht2 hb
                obtain ⟨j, rfl, hj1, hj2, hb, ht⟩ := hrel
                by_cases hjt : j ≤ m
                · obtain ⟨ga, hga, hca⟩ := hA.row (by omega)
                  obtain ⟨gb, hgb, hcb⟩ := hB.row (by omega)
                  subst hga
                  subst hgb
                  have hga := World.block_lt_of_cell? w _ (hca 0 (by omega))
                  have hgb := World.block_lt_of_cell? w _ (hcb 0 (by omega))
                  obtain ⟨i1, hi1'⟩ : ∃ i1, i = i1 + 1 := ⟨i - 1, by omega⟩
                  obtain ⟨j1, hj1'⟩ : ∃ j1, j = j1 + 1 := ⟨j - 1, by omega⟩
                  have ri : (i : Int) - 1 = (i1 : Int) := by omega
                  have rj : (j : Int) - 1 = (j1 : Int) := by omega
                  have wi : IntKind.i64.wrap (i1 : Int) = (i1 : Int) := IntWalk.i64_in _ (by omega)
                  have wj : IntKind.i64.wrap (j1 : Int) = (j1 : Int) := IntWalk.i64_in _ (by omega)
                  have HI : Hid (i = i1 + 1) := hi1'
                  have HJ : Hid (j = j1 + 1) := hj1'
                  obtain ⟨ca, hca1, hca2⟩ : ∃ c, wr.cell? ⟨ga, i1, none⟩ = some (.int .i32 c) ∧ Hid (A.getD i1 0 = c) := ⟨_, (hb.cell (by exact hga)).trans (hca i1 (by omega)), rfl⟩
                  obtain ⟨cb, hcb1, hcb2⟩ : ∃ c, wr.cell? ⟨gb, j1, none⟩ = some (.int .i32 c) ∧ Hid (B.getD j1 0 = c) := ⟨_, (hb.cell (by exact hgb)).trans (hcb j1 (by omega)), rfl⟩
                  have bi : (0 : Int) ≤ (i1 : Int) := by omega
                  have bi' : (i1 : Int) < (n : Int) := by omega
                  have bj : (0 : Int) ≤ (j1 : Int) := by omega
                  have bj' : (j1 : Int) < (m : Int) := by omega
                  have HCA := (show Hid _ from hca)
                  have HCB := (show Hid _ from hcb)
                  clear hca hcb hi1' hj1'
                  go_wp2
                  go_quiet (fail)
                  go_upto_if 67 with fail
                  have hcost : (ca == cb) = true ∧ Hid (cost A B i1 j1 = 0) ∨ (ca == cb) = false ∧ Hid (cost A B i1 j1 = 1) := cost_ways hca2.out hcb2.out
                  go_cut [11] (fun c w' => c = .int .i64 (cost A B i1 j1) ∧ Below w.heap.size w w' ∧ Tab A B n m W T w.heap.size w' (fun i' j' => i' < i ∨ j' = 0 ∨ (i' = i ∧ j' < j)))
                  case first =>
                    rcases hcost with ⟨h1, h2⟩ | ⟨h1, h2⟩
                    · go_wp2
                      go_meet
                      case rel => exact ⟨by rw [h2.out], below_drewN hb _, ht⟩
                    · go_wp2
                      go_meet
                      case rel => exact ⟨by rw [h2.out], below_drewN hb _, ht⟩
                  case rest =>
                    clear hcost hb ht hca1 hcb1
                    obtain ⟨rfl, hb, ht⟩ := hcut
                    obtain ⟨c, HC⟩ : ∃ c, Hid (cost A B i1 j1 = c) := ⟨_, rfl⟩
                    have hc01 : 0 ≤ c ∧ c ≤ 1 := by have := cost_01 A B i1 j1; rw [HC.out] at this; omega
                    rw [HC.out]
                    obtain ⟨x1, HX1⟩ : ∃ x, Hid (x = i1 * W) := ⟨_, rfl⟩
                    obtain ⟨y, HY⟩ : ∃ x, Hid (x = i * W) := ⟨_, rfl⟩
                    have rx1 : (i1 : Int) * (W : Int) = (x1 : Int) := by rw [HX1.out]; push_cast; rfl
                    have ry : (i : Int) * (W : Int) = (y : Int) := by rw [HY.out]; push_cast; rfl
                    obtain ⟨u1, HU1⟩ : ∃ x, Hid (x = x1 + j) := ⟨_, rfl⟩
                    obtain ⟨u2, HU2⟩ : ∃ x, Hid (x = y + j) := ⟨_, rfl⟩
                    obtain ⟨u3, HU3⟩ : ∃ x, Hid (x = y + j1) := ⟨_, rfl⟩
                    obtain ⟨u4, HU4⟩ : ∃ x, Hid (x = x1 + j1) := ⟨_, rfl⟩
                    have l1 : u1 < T := by rw [HU1.out, HX1.out, HT.out]; exact idx_lt (by omega) (by have := HW.out; omega)
                    have l2 : u2 < T := by rw [HU2.out, HY.out, HT.out]; exact idx_lt (by omega) (by have := HW.out; omega)
                    have ru1 : (x1 : Int) + (j : Int) = (u1 : Int) := by have := HU1.out; omega
                    have ru2 : (y : Int) + (j : Int) = (u2 : Int) := by have := HU2.out; omega
                    have ru3 : (u2 : Int) - 1 = (u3 : Int) := by have := HU2.out; have := HU3.out; have := HJ.out; omega
                    have ru4 : (u1 : Int) - 1 = (u4 : Int) := by have := HU1.out; have := HU4.out; have := HJ.out; omega
                    have l3 : u3 < T := by omega
                    have l4 : u4 < T := by omega
                    have l5 : x1 < T := by have := HU1.out; omega
                    have l6 : y < T := by have := HU2.out; omega
                    have wx1 : IntKind.i64.wrap (x1 : Int) = (x1 : Int) := IntWalk.i64_in _ (by omega)
                    have wy : IntKind.i64.wrap (y : Int) = (y : Int) := IntWalk.i64_in _ (by omega)
                    have wu1 : IntKind.i64.wrap (u1 : Int) = (u1 : Int) := IntWalk.i64_in _ (by omega)
                    have wu2 : IntKind.i64.wrap (u2 : Int) = (u2 : Int) := IntWalk.i64_in _ (by omega)
                    have wu3 : IntKind.i64.wrap (u3 : Int) = (u3 : Int) := IntWalk.i64_in _ (by omega)
                    have wu4 : IntKind.i64.wrap (u4 : Int) = (u4 : Int) := IntWalk.i64_in _ (by omega)
                    have b1 : (0 : Int) ≤ (u1 : Int) := by omega
                    have b3 : (0 : Int) ≤ (u3 : Int) := by omega
                    have b4 : (0 : Int) ≤ (u4 : Int) := by omega
                    have b1' : (u1 : Int) < (T : Int) := by omega
                    have b3' : (u3 : Int) < (T : Int) := by omega
                    have b4' : (u4 : Int) < (T : Int) := by omega
                    have B1 := D_bounds A B i1 j
                    have B2 := D_bounds A B i j1
                    have B3 := D_bounds A B i1 j1
                    have B1n := D_nonneg A B i1 j
                    have B2n := D_nonneg A B i j1
                    have B3n := D_nonneg A B i1 j1
                    obtain ⟨v1, c1, V1⟩ : ∃ v, wc.cell? ⟨w.heap.size, u1, none⟩ = some (.int .i64 v) ∧ Hid (D A B i1 j = v) := ⟨_, Tab.known ht HW.out HT.out i1 j u1 (by omega) (by omega) (by rw [HU1.out, HX1.out]) (by have := HI.out; omega), rfl⟩
                    obtain ⟨v2, c2, V2⟩ : ∃ v, wc.cell? ⟨w.heap.size, u3, none⟩ = some (.int .i64 v) ∧ Hid (D A B i j1 = v) := ⟨_, Tab.known ht HW.out HT.out i j1 u3 (by omega) (by omega) (by rw [HU3.out, HY.out]) (by have := HJ.out; omega), rfl⟩
                    obtain ⟨v3, c3, V3⟩ : ∃ v, wc.cell? ⟨w.heap.size, u4, none⟩ = some (.int .i64 v) ∧ Hid (D A B i1 j1 = v) := ⟨_, Tab.known ht HW.out HT.out i1 j1 u4 (by omega) (by omega) (by rw [HU4.out, HX1.out]) (by have := HI.out; omega), rfl⟩
                    rw [V1.out] at B1 B1n
                    rw [V2.out] at B2 B2n
                    rw [V3.out] at B3 B3n
                    have wv1 : IntKind.i64.wrap (v1 + 1) = v1 + 1 := IntWalk.i64_in _ (by omega)
                    have wv2 : IntKind.i64.wrap (v2 + 1) = v2 + 1 := IntWalk.i64_in _ (by omega)
                    have wv3 : IntKind.i64.wrap (v3 + c) = v3 + c := IntWalk.i64_in _ (by omega)
                    go_wp2
                    go_quiet ((go_at_call 32; exact Calls.quiet_of_same (min32 _ _ _ _)))
                    go_upto_region 21 with fail
                    have H3 : Hid (min (v1 + 1) (min (v2 + 1) (v3 + c)) = three A B i1 j1) := by
                      unfold Hid three
                      rw [← V1.out, ← V2.out, ← V3.out, ← HC.out, HJ.out, HI.out]
                    clear c1 c2 c3 wv1 wv2 wv3
                    go_cut [12, 132] (fun v s w' => v = .int .i64 (three A B i1 j1) ∧ s = .bool (swapB A B i1 j1) ∧ Below w.heap.size w w' ∧ Tab A B n m W T w.heap.size w' (fun i' j' => i' < i ∨ j' = 0 ∨ (i' = i ∧ j' < j)))
                    case first =>
                      by_cases g1 : i ≤ 1
                      · have d1 : decide ((1 : Int) < (i : Int)) = false := decide_eq_false (by omega)
                        have hs : Hid (swapB A B i1 j1 = false) := swap_no1 (by omega)
                        go_quiet (fail)
                        go_wp2
                        go_meet
                        case rel => exact ⟨by rw [H3.out], by rw [hs.out], below_drewN (below_drewN hb _) _, ht⟩
                      · have d1 : decide ((1 : Int) < (i : Int)) = true := decide_eq_true (by omega)
                        by_cases g2 : j ≤ 1
                        · have d2 : decide ((1 : Int) < (j : Int)) = false := decide_eq_false (by omega)
                          have hs : Hid (swapB A B i1 j1 = false) := swap_no2 (by omega)
                          go_quiet (fail)
                          go_wp2
                          go_meet
                          case rel => exact ⟨by rw [H3.out], by rw [hs.out], below_drewN (below_drewN hb _) _, ht⟩
                        · have d2 : decide ((1 : Int) < (j : Int)) = true := decide_eq_true (by omega)
                          obtain ⟨i2, hi2⟩ : ∃ i2, i = i2 + 2 := ⟨i - 2, by omega⟩
                          obtain ⟨j2, hj2⟩ : ∃ j2, j = j2 + 2 := ⟨j - 2, by omega⟩
                          have ri2 : (i : Int) - 2 = (i2 : Int) := by omega
                          have rj2 : (j : Int) - 2 = (j2 : Int) := by omega
                          have wi2 : IntKind.i64.wrap (i2 : Int) = (i2 : Int) := IntWalk.i64_in _ (by omega)
                          have wj2 : IntKind.i64.wrap (j2 : Int) = (j2 : Int) := IntWalk.i64_in _ (by omega)
                          have e2 : i1 - 1 = i2 := by omega
                          have e3 : j1 - 1 = j2 := by omega
                          obtain ⟨cb2, hcb21, hcb22⟩ : ∃ c, wc.cell? ⟨gb, j2, none⟩ = some (.int .i32 c) ∧ Hid (B.getD (j1 - 1) 0 = c) := ⟨_, (hb.cell (by exact hgb)).trans (HCB.out j2 (by omega)), by rw [e3]; rfl⟩
                          obtain ⟨ca2, hca21, hca22⟩ : ∃ c, wc.cell? ⟨ga, i2, none⟩ = some (.int .i32 c) ∧ Hid (A.getD (i1 - 1) 0 = c) := ⟨_, (hb.cell (by exact hga)).trans (HCA.out i2 (by omega)), by rw [e2]; rfl⟩
                          have hcai : wc.cell? ⟨ga, i1, none⟩ = some (.int .i32 ca) := by rw [← hca2.out]; exact (hb.cell (by exact hga)).trans (HCA.out i1 (by omega))
                          have hcbj : wc.cell? ⟨gb, j1, none⟩ = some (.int .i32 cb) := by rw [← hcb2.out]; exact (hb.cell (by exact hgb)).trans (HCB.out j1 (by omega))
                          have hs : Hid (swapB A B i1 j1 = (ca == cb2 && ca2 == cb)) := swap_at (by omega) (by omega) hca2.out hca22.out hcb2.out hcb22.out
                          have bi2 : (0 : Int) ≤ (i2 : Int) := by omega
                          have bi2' : (i2 : Int) < (n : Int) := by omega
                          have bj2 : (0 : Int) ≤ (j2 : Int) := by omega
                          have bj2' : (j2 : Int) < (m : Int) := by omega
                          clear hi2 hj2 e2 e3
                          by_cases g3 : ca = cb2
                          · have g3' : (ca == cb2) = true := by simp [g3]
                            clear g3
                            go_quiet (fail)
                            go_wp2
                            go_meet
                            case rel => exact ⟨by rw [H3.out], by rw [hs.out, g3', Bool.true_and], below_drewN (below_drewN hb _) _, ht⟩
                          · have g3' : (ca == cb2) = false := by simp [g3]
                            clear g3
                            go_quiet (fail)
                            go_wp2
                            go_meet
                            case rel => exact ⟨by rw [H3.out], by rw [hs.out, g3', Bool.false_and], below_drewN (below_drewN hb _) _, ht⟩
                    case rest =>
                      clear hb ht
                      obtain ⟨rfl, rfl, hb, ht⟩ := hcut
                      obtain ⟨t3, H3t⟩ : ∃ t, Hid (three A B i1 j1 = t) := ⟨_, rfl⟩
                      have h3b : 0 ≤ t3 ∧ t3 ≤ 4000 := by have := H3.out; have := H3t.out; omega
                      rw [H3t.out]
                      obtain ⟨⟨v0, c0⟩, f0⟩ := ht.there u2 l2
                      by_cases hs : swapB A B i1 j1 = true
                      · obtain ⟨s1, s2⟩ := swap_lo A B i1 j1 hs
                        obtain ⟨i2, HI2⟩ : ∃ i2, Hid (i1 = i2 + 1) := ⟨i1 - 1, by unfold Hid; omega⟩
                        obtain ⟨j2, HJ2⟩ : ∃ j2, Hid (j1 = j2 + 1) := ⟨j1 - 1, by unfold Hid; omega⟩
                        have ri2 : (i : Int) - 2 = (i2 : Int) := by have := HI2.out; have := HI.out; omega
                        obtain ⟨z, HZ⟩ : ∃ x, Hid (x = i2 * W) := ⟨_, rfl⟩
                        have rz : (i2 : Int) * (W : Int) = (z : Int) := by rw [HZ.out]; push_cast; rfl
                        obtain ⟨z1, HZ1⟩ : ∃ x, Hid (x = z + j) := ⟨_, rfl⟩
                        obtain ⟨z2, HZ2⟩ : ∃ x, Hid (x = z + j2) := ⟨_, rfl⟩
                        have rz1 : (z : Int) + (j : Int) = (z1 : Int) := by have := HZ1.out; omega
                        have rz2 : (z1 : Int) - 2 = (z2 : Int) := by have := HZ1.out; have := HZ2.out; have := HJ2.out; have := HJ.out; omega
                        have lz2 : z2 < T := by rw [HZ2.out, HZ.out, HT.out]; exact idx_lt (by have := HI2.out; have := HI.out; omega) (by have := HW.out; have := HJ2.out; omega)
                        have lz1 : z1 < T + 2 := by omega
                        have lz : z < T + 2 := by omega
                        have B4 := D_bounds A B i2 j2
                        have B4n := D_nonneg A B i2 j2
                        obtain ⟨v4, c4, V4⟩ : ∃ v, wc.cell? ⟨w.heap.size, z2, none⟩ = some (.int .i64 v) ∧ Hid (D A B i2 j2 = v) := ⟨_, Tab.known ht HW.out HT.out i2 j2 z2 (by have := HI2.out; omega) (by have := HJ2.out; omega) (by rw [HZ2.out, HZ.out]) (by have := HI2.out; have := HI.out; omega), rfl⟩
                        rw [V4.out] at B4 B4n
                        have b4a : v4 ≤ 4000 := by have := HI2.out; have := HJ2.out; omega
                        have HD : Hid (D A B i j = min t3 (v4 + 1)) := by
                          unfold Hid
                          rw [HI.out, HJ.out, ← H3t.out, ← V4.out, HI2.out, HJ2.out]
                          exact D_swap A B i2 j2 (by rw [← HI2.out, ← HJ2.out]; exact hs)
                        rw [hs]
                        go_wp2
                        · have ht' := ht.set HW.out HT.out i j u2 (v4 + 1) (by omega) (by omega) (by rw [HU2.out, HY.out]) (by rw [HD.out]; omega)
                          go_roundw
                          case rel => exact ⟨j + 1, by go_num, by omega, by omega, hb.setCell (Nat.le_refl _) _, ht'.mono fun i' j' _ _ h => by omega⟩
                          case measure => simp [intOf]; omega
                        · have ht' := ht.set HW.out HT.out i j u2 t3 (by omega) (by omega) (by rw [HU2.out, HY.out]) (by rw [HD.out]; omega)
                          go_roundw
                          case rel => exact ⟨j + 1, by go_num, by omega, by omega, hb.setCell (Nat.le_refl _) _, ht'.mono fun i' j' _ _ h => by omega⟩
                          case measure => simp [intOf]; omega
                      · have hs' : swapB A B i1 j1 = false := by simpa using hs
                        have HD : Hid (D A B i j = t3) := by
                          unfold Hid
                          rw [HI.out, HJ.out, ← H3t.out]
                          exact D_plain A B i1 j1 hs'
                        have ht' := ht.set HW.out HT.out i j u2 t3 (by omega) (by omega) (by rw [HU2.out, HY.out]) (by rw [HD.out])
                        rw [hs']
                        go_wp2
                        go_roundw
                        case rel => exact ⟨j + 1, by go_num, by omega, by omega, hb.setCell (Nat.le_refl _) _, ht'.mono fun i' j' _ _ h => by omega⟩
                        case measure => simp [intOf]; omega
                · have ht2 := ht.mono (Q := fun i' j' => i' < i + 1 ∨ j' = 0) fun i' j' h1 h2 h => by omega
                  clear ht
                  go_wp2
                  go_roundw
                  case rel => exact ⟨i + 1, by go_num, by omega, by omega, hb, ht2⟩
                  case measure => simp [intOf]; omega
            · obtain ⟨y, HY⟩ : ∃ x, Hid (x = n * W) := ⟨_, rfl⟩
              have ry : (n : Int) * (W : Int) = (y : Int) := by rw [HY.out]; push_cast; rfl
              obtain ⟨z, HZ⟩ : ∃ x, Hid (x = y + m) := ⟨_, rfl⟩
              have rz : (y : Int) + (m : Int) = (z : Int) := by have := HZ.out; omega
              have lz : z < T := by rw [HZ.out, HY.out, HT.out]; exact idx_lt (by omega) (by have := HW.out; omega)
              have ly : y < T := by have := HZ.out; omega
              have hc := Tab.known ht HW.out HT.out n m z (by omega) (by omega) (by rw [HZ.out, HY.out]) (by omega)
              go_wp2
              go_ret
              exact ⟨rfl, hb⟩
end Go.Proofs.Qxb6001681a
