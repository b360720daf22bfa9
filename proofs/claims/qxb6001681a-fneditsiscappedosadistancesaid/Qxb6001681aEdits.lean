import Derived.Test.Qxb6001681aBase
import Derived.BigRegion
namespace Go.Proofs.Qxb6001681a
open Go.RowKit
set_option linter.unusedVariables false

/-- The three rows of 'edits' in memory: 'before' in block g1, 'prev' in g2, 'row' in g3; the two captured variables ('past', 'width'); nothing old has turned. -/
structure R3 (w wr : World) (L W g1 g2 g3 : Nat) (l1 l2 l3 : List Int) : Prop where
  ne12 : g1 ≠ g2
  ne13 : g1 ≠ g3
  ne23 : g2 ≠ g3
  b1 : w.heap.size + 2 ≤ g1
  b2 : w.heap.size + 2 ≤ g2
  b3 : w.heap.size + 2 ≤ g3
  bel : Below w.heap.size w wr
  pp : wr.cell? ⟨w.heap.size, 0, none⟩ = some (.int .i64 ((L : Int) + 1))
  pw : wr.cell? ⟨w.heap.size + 1, 0, none⟩ = some (.int .i64 W)
  r1 : RowI wr g1 3 .i64 l1
  r2 : RowI wr g2 3 .i64 l2
  r3 : RowI wr g3 3 .i64 l3
  n1 : l1.length = W
  n2 : l2.length = W
  n3 : l3.length = W

section
variable {w wr : World} {L W g1 g2 g3 : Nat} {l1 l2 l3 : List Int}
theorem cell_far (w : World) (g k : Nat) (v : Value) (b : Nat) (h : b ≠ g) : (w.setCell ⟨g, k, none⟩ v).cell? ⟨b, 0, none⟩ = w.cell? ⟨b, 0, none⟩ :=
  World.cell?_of_block (heap_setCell_other w _ _ _ h)
theorem cell_off (w : World) (g k : Nat) (v : Value) (b o : Nat) (h : b ≠ g) : (w.setCell ⟨g, k, none⟩ v).cell? ⟨b, o, none⟩ = w.cell? ⟨b, o, none⟩ :=
  World.cell?_of_block (heap_setCell_other w _ _ _ h)
theorem R3.rotate (h : R3 w wr L W g1 g2 g3 l1 l2 l3) : R3 w wr L W g2 g3 g1 l2 l3 l1 :=
  ⟨h.ne23, h.ne12.symm, h.ne13.symm, h.b2, h.b3, h.b1, h.bel, h.pp, h.pw, h.r2, h.r3, h.r1, h.n2, h.n3, h.n1⟩
theorem R3.set3 (h : R3 w wr L W g1 g2 g3 l1 l2 l3) (k : Nat) (v : Int) : R3 w (wr.setCell ⟨g3, k, none⟩ (.int .i64 v)) L W g1 g2 g3 l1 l2 (l3.set k v) := by
  refine ⟨h.ne12, h.ne13, h.ne23, h.b1, h.b2, h.b3, h.bel.setCell (p := ⟨g3, k, none⟩) (by have := h.b3; show w.heap.size ≤ g3; omega) _, ?_, ?_, h.r1.other _ h.ne13, h.r2.other _ h.ne23, h.r3.set k v, h.n1, h.n2, by simpa using h.n3⟩
  · rw [cell_far _ _ _ _ _ (by have := h.b3; omega)]; exact h.pp
  · rw [cell_far _ _ _ _ _ (by have := h.b3; omega)]; exact h.pw
theorem R3.set1 (h : R3 w wr L W g1 g2 g3 l1 l2 l3) (k : Nat) (v : Int) : R3 w (wr.setCell ⟨g1, k, none⟩ (.int .i64 v)) L W g1 g2 g3 (l1.set k v) l2 l3 := (h.rotate.set3 k v).rotate.rotate
theorem R3.set2 (h : R3 w wr L W g1 g2 g3 l1 l2 l3) (k : Nat) (v : Int) : R3 w (wr.setCell ⟨g2, k, none⟩ (.int .i64 v)) L W g1 g2 g3 l1 (l2.set k v) l3 := (h.rotate.rotate.set3 k v).rotate
theorem R3.drew (h : R3 w wr L W g1 g2 g3 l1 l2 l3) : R3 w wr.drew L W g1 g2 g3 l1 l2 l3 :=
  ⟨h.ne12, h.ne13, h.ne23, h.b1, h.b2, h.b3, h.bel.drew, h.pp, h.pw, h.r1, h.r2, h.r3, h.n1, h.n2, h.n3⟩
theorem R3.drewN (h : R3 w wr L W g1 g2 g3 l1 l2 l3) (n : Nat) : R3 w (wr.drewN n) L W g1 g2 g3 l1 l2 l3 :=
  ⟨h.ne12, h.ne13, h.ne23, h.b1, h.b2, h.b3, below_drewN h.bel n, h.pp, h.pw, h.r1, h.r2, h.r3, h.n1, h.n2, h.n3⟩
end

/-- The world behind 'past, width := ..', and behind the three makes. -/
def w2 (w : World) (L W : Nat) : World := (w.alloc (.cells #[.int .i64 ((L : Int) + 1)] 3)).alloc (.cells #[.int .i64 W] 3)
def w5 (w : World) (L W : Nat) : World := (((w2 w L W).alloc (.cells (madeCells #[.int .i64 0] W) 3)).alloc (.cells (madeCells #[.int .i64 0] W) 3)).alloc (.cells (madeCells #[.int .i64 0] W) 3)
theorem size2 (w : World) (L W : Nat) : (w2 w L W).heap.size = w.heap.size + 2 := by simp [w2]
theorem rows5 (w : World) (L W g : Nat) (hg : g = w.heap.size + 2 ∨ g = w.heap.size + 3 ∨ g = w.heap.size + 4) : RowI (w5 w L W) g 3 .i64 (List.replicate W 0) := by
  have h0 := rowI_made (w2 w L W) 3 .i64 W
  have h1 := rowI_made ((w2 w L W).alloc (.cells (madeCells #[.int .i64 0] W) 3)) 3 .i64 W
  have h2 := rowI_made (((w2 w L W).alloc (.cells (madeCells #[.int .i64 0] W) 3)).alloc (.cells (madeCells #[.int .i64 0] W) 3)) 3 .i64 W
  have s1 : ((w2 w L W).alloc (.cells (madeCells #[.int .i64 0] W) 3)).heap.size = w.heap.size + 3 := by simp [size2]
  have s2 : (((w2 w L W).alloc (.cells (madeCells #[.int .i64 0] W) 3)).alloc (.cells (madeCells #[.int .i64 0] W) 3)).heap.size = w.heap.size + 4 := by simp [size2]
  rw [size2] at h0
  rw [s1] at h1
  rw [s2] at h2
  rcases hg with rfl | rfl | rfl
  · exact (h0.alloc _).alloc _
  · exact h1.alloc _
  · exact h2
theorem below5 (w : World) (L W : Nat) : Below w.heap.size w (w5 w L W) :=
  (((((Below.refl _ _).alloc (Nat.le_refl _) _).alloc (by simp) _).alloc (by simp; omega) _).alloc (by simp; omega) _).alloc (by simp; omega) _
theorem cells5 (w : World) (L W b : Nat) (hb : b < w.heap.size + 2) : (w5 w L W).cell? ⟨b, 0, none⟩ = (w2 w L W).cell? ⟨b, 0, none⟩ := by
  have hs := size2 w L W
  unfold w5
  rw [World.cell?_alloc_lt _ _ _ (by simp [hs]; omega), World.cell?_alloc_lt _ _ _ (by simp [hs]; omega), World.cell?_alloc_lt _ _ _ (by simp [hs]; omega)]
theorem r3_start (w : World) (L W g1 g2 g3 : Nat) (h1 : g1 = w.heap.size + 2 ∨ g1 = w.heap.size + 3 ∨ g1 = w.heap.size + 4) (h2 : g2 = w.heap.size + 2 ∨ g2 = w.heap.size + 3 ∨ g2 = w.heap.size + 4) (h3 : g3 = w.heap.size + 2 ∨ g3 = w.heap.size + 3 ∨ g3 = w.heap.size + 4)
    (n12 : g1 ≠ g2) (n13 : g1 ≠ g3) (n23 : g2 ≠ g3) : R3 w (w5 w L W) L W g1 g2 g3 (List.replicate W 0) (List.replicate W 0) (List.replicate W 0) := by
  refine ⟨n12, n13, n23, by omega, by omega, by omega, below5 w L W, ?_, ?_, rows5 w L W g1 h1, rows5 w L W g2 h2, rows5 w L W g3 h3, by simp, by simp, by simp⟩
  · rw [cells5 w L W _ (by omega)]; simp [w2]
  · rw [cells5 w L W _ (by omega)]; simp [w2]

theorem gomin (x y : Int) : (if y < x then y else x) = min x y := by split <;> omega
theorem gomin3 (x1 x2 z : Int) : (if z < if x2 < x1 then x2 + 1 else x1 + 1 then z else if x2 < x1 then x2 + 1 else x1 + 1) = min (x1 + 1) (min (x2 + 1) z) := by
  by_cases h : x2 < x1
  · rw [if_pos h]; split <;> omega
  · rw [if_neg h]; split <;> omega
theorem at40n (L W g pw pp : Nat) (l : List Int) (f : Nat → Int) (k x : Int) (w : World) (hW : W = 2 * L + 1) (hL : L ≤ 1024) (hr : RowI w g 3 .i64 l) (hl : l.length = W) (hf : ∀ t, t < W → l.getD t 0 = f t)
    (hpw : w.cell? ⟨pw, 0, none⟩ = some (.int .i64 W)) (hpp : w.cell? ⟨pp, 0, none⟩ = some (.int .i64 ((L : Int) + 1))) (hk : -4000 ≤ k ∧ k ≤ 4000) (hx : atv L f k = x) :
    Calls Try.prog 40 #[.slice (some ⟨g, 0, none⟩) W W, .int .i64 k, .pointer (some ⟨pw, 0, none⟩), .pointer (some ⟨pp, 0, none⟩)] w fun e w' => e = .returned (.int .i64 x) ∧ w = w' := by
  subst hx
  exact (at40 L W g pw pp l f k w hW hL hr hl hf hpw hpp hk).mono fun _ _ ⟨h1, h2⟩ => ⟨h1, h2.symm⟩
/-- The cell to the left in the row that is being made. -/
theorem atv_row {A B : List Int} {L m i k j : Nat} {l3 : List Int} (h : ∀ t, t < k → l3.getD t 0 = band A B L m i t) (hk : k < 2 * L + 1) (hj : (i : Int) - L + k = (j : Int) + 1) (hm : j ≤ m) : atv L (fun t => l3.getD t 0) ((k : Int) - 1) = min (D A B i j) ((L : Int) + 1) := by
  have hb := D_bounds A B i j
  unfold atv
  split
  · omega
  · show l3.getD ((k : Int) - 1).toNat 0 = _
    rw [h _ (by omega), band_in A B L m i _ j (by omega) hm]

/-- What the rows hold at the head of row i (from 1): 'prev' is row i - 1, 'before' row i - 2 (if there is one). -/
def St (A B : List Int) (L m W i : Nat) (l1 l2 : List Int) : Prop := ∀ t, t < W → l2.getD t 0 = band A B L m (i - 1) t ∧ (2 ≤ i → l1.getD t 0 = band A B L m (i - 2) t)
/-- What the new row holds before cell k, and what 'least' says of it. -/
def Row (A B : List Int) (L m i k : Nat) (lz : Int) (l3 : List Int) : Prop := (∀ t, t < k → l3.getD t 0 = band A B L m i t) ∧ lz ≤ (L : Int) + 1 ∧ (lz = (L : Int) + 1 → ∀ t, t < k → band A B L m i t = (L : Int) + 1)
theorem row_start (A B : List Int) (L m i : Nat) (l3 : List Int) : Row A B L m i 0 ((L : Int) + 1) l3 := ⟨fun t ht => by omega, by omega, fun _ t ht => by omega⟩
theorem Row.step {A B : List Int} {L m i k : Nat} {lz : Int} {l3 : List Int} (h : Row A B L m i k lz l3) (hk : k < l3.length) (v : Int) (hv : v = band A B L m i k) : Row A B L m i (k + 1) (min lz v) (l3.set k v) := by
  obtain ⟨h1, h2, h3⟩ := h
  have hb := band_le A B L m i k
  refine ⟨fun t ht => ?_, by omega, fun he t ht => ?_⟩
  · by_cases htk : t = k
    · rw [htk, List.getD_eq_getElem?_getD, List.getElem?_set_self hk, hv]; rfl
    · rw [← h1 t (by omega)]
      simp only [List.getD_eq_getElem?_getD]
      rw [List.getElem?_set_ne (by omega)]
  · by_cases htk : t = k
    · rw [htk]; omega
    · exact h3 (by omega) t (by omega)

set_option maxHeartbeats 4000000 in
set_option maxRecDepth 100000 in
theorem edits31 (A B : List Int) (ao bo : Option Addr) (n m L : Nat) (w : World) (hA : Txt w ao n A) (hB : Txt w bo m B) (hn : n ≤ 1024) (hm : m ≤ 1024) (hL : L ≤ 1024) :
    Calls Try.prog 31 #[.slice ao n n, .slice bo m m, .int .i64 L] w fun e w' => e = .returned (.int .i64 (min (D A B n m) ((L : Int) + 1))) ∧ Below w.heap.size w w' := by
  obtain ⟨W, HW⟩ : ∃ W, Hid (W = 2 * L + 1) := ⟨_, rfl⟩
  have hW1 : W ≤ 2 * L + 1 := by have := HW.out; omega
  have hW2 : 2 * L + 1 ≤ W := by have := HW.out; omega
  have rW : 2 * (L : Int) + 1 = (W : Int) := by omega
  have hmk := run_make_row' (P := Try.prog) 22 3 (.int .i64 0) 8 Try.underlying22 Try.info3 rfl .i64 .i64 W (by omega) (by omega)
  go_enter Try.func31, Try.ntmps31
  go_upto_region 3 with fail
  go_cut [10, 11, 12] (fun a b c w' => ∃ g1 g2 g3 l1 l2 l3, a = .slice (some ⟨g1, 0, none⟩) W W ∧ b = .slice (some ⟨g2, 0, none⟩) W W ∧ c = .slice (some ⟨g3, 0, none⟩) W W ∧ R3 w w' L W g1 g2 g3 l1 l2 l3)
  case first =>
    go_region
    all_goals (go_wp2; go_meet)
    all_goals exact ⟨_, _, _, _, _, _, rfl, rfl, rfl, (r3_start w L W _ _ _ (by omega) (by omega) (by omega) (by omega) (by omega) (by omega)).drew⟩
  case rest =>
    obtain ⟨g1, g2, g3, l1, l2, l3, rfl, rfl, rfl, h3⟩ := hcut
    have pw := h3.pw
    go_wp2
    clear pw
    go_loopw [34] (fun i wr => ∃ (k : Nat) (l1 l2 l3 : List Int), i = .int .i64 k ∧ k ≤ W ∧ R3 w wr L W g1 g2 g3 l1 l2 l3 ∧ ∀ t, t < k → l2.getD t 0 = band A B L m 0 t) (fun i _ => W - (intOf i).toNat)
    case atStart => exact ⟨0, l1, l2, l3, rfl, by omega, h3, fun t ht => by omega⟩
    case round =>
      clear h3 l1 l2 l3
      obtain ⟨k, l1, l2, l3, rfl, hk, h3, hl⟩ := hrel
      have HL := (show Hid _ from hl)
      clear hl
      by_cases hlt : k < W
      · have pp := h3.pp
        have c1 := h3.r1.cell k (by rw [h3.n1]; exact hlt)
        have c2 := h3.r2.cell k (by rw [h3.n2]; exact hlt)
        have f1 := h3.r1.frozen k
        have f2 := h3.r2.frozen k
        have bk : (0 : Int) ≤ (k : Int) := by omega
        have bk' : (k : Int) < (W : Int) := by omega
        have q1 : ∀ v, (wr.setCell ⟨g1, k, none⟩ v).cell? ⟨w.heap.size, 0, none⟩ = some (.int .i64 ((L : Int) + 1)) := fun v => by rw [cell_off _ _ _ _ _ _ (by have := h3.b1; omega)]; exact pp
        have q2 : ∀ v, (wr.setCell ⟨g2, k, none⟩ v).cell? ⟨w.heap.size, 0, none⟩ = some (.int .i64 ((L : Int) + 1)) := fun v => by rw [cell_off _ _ _ _ _ _ (by have := h3.b2; omega)]; exact pp
        have q3 : ∀ v, (wr.setCell ⟨g1, k, none⟩ v).cell? ⟨g2, k, none⟩ = some (.int .i64 (l2.getD k 0)) := fun v => by rw [cell_off _ _ _ _ _ _ h3.ne12.symm]; exact c2
        have q4 : ∀ v, (wr.setCell ⟨g2, k, none⟩ v).cell? ⟨g1, k, none⟩ = some (.int .i64 (l1.getD k 0)) := fun v => by rw [cell_off _ _ _ _ _ _ h3.ne12]; exact c1
        go_wp2
        go_region
        have h3' := ((h3.set1 k ((L : Int) + 1)).set2 k ((L : Int) + 1)).drew
        clear pp c1 c2 f1 f2 q1 q2 q3 q4
        generalize hwx : ((wr.setCell ⟨g1, k, none⟩ (.int .i64 ((L : Int) + 1))).setCell ⟨g2, k, none⟩ (.int .i64 ((L : Int) + 1))).drew = wx at *
        clear hwx
        have L2 : ∀ t, t < k → (l2.set k ((L : Int) + 1)).getD t 0 = band A B L m 0 t := fun t ht => by
          rw [← HL.out t ht]
          simp only [List.getD_eq_getElem?_getD]
          rw [List.getElem?_set_ne (by omega)]
        by_cases hj : L ≤ k
        · obtain ⟨j0, hj0⟩ : ∃ j0, k = L + j0 := ⟨k - L, by omega⟩
          have rj : (k : Int) - (L : Int) = (j0 : Int) := by omega
          have HJ : Hid (k = L + j0) := hj0
          clear hj0
          by_cases hm2 : j0 ≤ m
          · have c2 := h3'.r2.cell k (by rw [h3'.n2]; exact hlt)
            have f2 := h3'.r2.frozen k
            have h3b := h3'.set2 k j0
            have L3 : ∀ t, t < k + 1 → ((l2.set k ((L : Int) + 1)).set k j0).getD t 0 = band A B L m 0 t := fun t ht => by
              by_cases htk : t = k
              · rw [htk, List.getD_eq_getElem?_getD, List.getElem?_set_self (by rw [h3'.n2]; exact hlt), band_first A B L m k j0 rj hm2 (by omega)]
                rfl
              · rw [← L2 t (by omega)]
                simp only [List.getD_eq_getElem?_getD]
                rw [List.getElem?_set_ne (by omega)]
            have HL3 := (show Hid _ from L3)
            clear L2 L3
            go_wp2
            go_roundw
            case rel => exact ⟨k + 1, _, _, _, by go_num, by omega, h3b, HL3.out⟩
            case measure => simp [intOf]; omega
          · have L3 : ∀ t, t < k + 1 → (l2.set k ((L : Int) + 1)).getD t 0 = band A B L m 0 t := fun t ht => by
              by_cases htk : t = k
              · rw [htk, List.getD_eq_getElem?_getD, List.getElem?_set_self (by rw [h3.n2]; exact hlt), band_out A B L m 0 k (by omega)]
                rfl
              · exact L2 t (by omega)
            have HL3 := (show Hid _ from L3)
            clear L2 L3
            go_wp2
            go_roundw
            case rel => exact ⟨k + 1, _, _, _, by go_num, by omega, h3', HL3.out⟩
            case measure => simp [intOf]; omega
        · have d1 : decide ((0 : Int) ≤ (k : Int) - (L : Int)) = false := decide_eq_false (by omega)
          have L3 : ∀ t, t < k + 1 → (l2.set k ((L : Int) + 1)).getD t 0 = band A B L m 0 t := fun t ht => by
            by_cases htk : t = k
            · rw [htk, List.getD_eq_getElem?_getD, List.getElem?_set_self (by rw [h3.n2]; exact hlt), band_out A B L m 0 k (by omega)]
              rfl
            · exact L2 t (by omega)
          have HL3 := (show Hid _ from L3)
          clear L2 L3
          go_wp2
          go_roundw
          case rel => exact ⟨k + 1, _, _, _, by go_num, by omega, h3', HL3.out⟩
          case measure => simp [intOf]; omega
      · have hst : St A B L m W 1 l1 l2 := fun t ht => ⟨HL.out t (by omega), fun h => by omega⟩
        clear HL
        go_wp2
        go_loopw [10, 11, 12, 15] (fun a b c i wr => ∃ (q g1 g2 g3 : Nat) (l1 l2 l3 : List Int), a = .slice (some ⟨g1, 0, none⟩) W W ∧ b = .slice (some ⟨g2, 0, none⟩) W W ∧ c = .slice (some ⟨g3, 0, none⟩) W W ∧ i = .int .i64 q ∧ 1 ≤ q ∧ q ≤ n + 1 ∧ R3 w wr L W g1 g2 g3 l1 l2 l3 ∧ St A B L m W q l1 l2) (fun _ _ _ i _ => n + 1 - (intOf i).toNat)
        case atStart => exact ⟨1, g1, g2, g3, l1, l2, l3, rfl, rfl, rfl, rfl, by omega, by omega, h3, hst⟩
        case round =>
          clear h3 hst l1 l2 l3
          obtain ⟨i, g1, g2, g3, l1, l2, l3, rfl, rfl, rfl, rfl, hi1, hi2, h3, hst⟩ := hrel
          by_cases hin : i ≤ n
          · have pp := h3.pp
            have pw := h3.pw
            go_wp2
            clear pp pw
            go_loopw [16, 69] (fun ls kk wr => ∃ (k : Nat) (lz : Int) (l3 : List Int), kk = .int .i64 k ∧ k ≤ W ∧ ls = .int .i64 lz ∧ R3 w wr L W g1 g2 g3 l1 l2 l3 ∧ Row A B L m i k lz l3) (fun _ kk _ => W - (intOf kk).toNat)
            case atStart => exact ⟨0, _, l3, rfl, by omega, rfl, h3, row_start A B L m i l3⟩
            case round =>
              clear h3 l3
              obtain ⟨k, lz, l3, rfl, hk, rfl, h3, hrow⟩ := hrel
              by_cases hkt : k < W
              · have pp := h3.pp
                have c3 := h3.r3.cell k (by rw [h3.n3]; exact hkt)
                have f3 := h3.r3.frozen k
                have bk : (0 : Int) ≤ (k : Int) := by omega
                have bk' : (k : Int) < (W : Int) := by omega
                have lk : k < l3.length := by rw [h3.n3]; exact hkt
                by_cases hA1 : (i : Int) - L + k < 0
                · have hv : Hid ((L : Int) + 1 = band A B L m i k) := (band_out A B L m i k (.inl hA1)).symm
                  have hS := h3.set3 k ((L : Int) + 1)
                  have hR := hrow.step lk ((L : Int) + 1) hv.out
                  have hRH := (show Hid _ from hR)
                  clear hR
                  go_wp2
                  go_roundw
                  case rel => exact ⟨k + 1, _, _, by go_num, by omega, rfl, hS, by rw [gomin]; exact hRH.out⟩
                  case measure => simp [intOf]; omega
                have d1 : decide ((i : Int) - L + k < 0) = false := decide_eq_false hA1
                by_cases hA2 : (m : Int) < (i : Int) - L + k
                · have hv : Hid ((L : Int) + 1 = band A B L m i k) := (band_out A B L m i k (.inr hA2)).symm
                  have hS := h3.set3 k ((L : Int) + 1)
                  have hR := hrow.step lk ((L : Int) + 1) hv.out
                  have hRH := (show Hid _ from hR)
                  clear hR
                  go_wp2
                  go_roundw
                  case rel => exact ⟨k + 1, _, _, by go_num, by omega, rfl, hS, by rw [gomin]; exact hRH.out⟩
                  case measure => simp [intOf]; omega
                by_cases hB0 : (i : Int) - L + k = 0
                · have hv : Hid ((i : Int) = band A B L m i k) := by unfold Hid; rw [band_left A B L m i k hB0]; omega
                  have hS := h3.set3 k i
                  have hR := hrow.step lk i hv.out
                  have hRH := (show Hid _ from hR)
                  clear hR d1
                  go_wp2
                  go_roundw
                  case rel => exact ⟨k + 1, _, _, by go_num, by omega, rfl, hS, by rw [gomin]; exact hRH.out⟩
                  case measure => simp [intOf]; omega
                obtain ⟨j, hj⟩ : ∃ j : Nat, (i : Int) - L + k = j := ⟨((i : Int) - L + k).toNat, by omega⟩
                have hj1 : 1 ≤ j := by omega
                have hj2 : j ≤ m := by omega
                have hjz : ((j : Int) == 0) = false := beq_eq_false_iff_ne.2 (by omega)
                clear hA1 hA2 hB0 d1
                obtain ⟨ga, hga, hca⟩ := hA.row (by omega)
                obtain ⟨gb, hgb, hcb⟩ := hB.row (by omega)
                subst hga
                subst hgb
                have hga := World.block_lt_of_cell? w _ (hca 0 (by omega))
                have hgb := World.block_lt_of_cell? w _ (hcb 0 (by omega))
                obtain ⟨i1, hi1'⟩ : ∃ i1, i = i1 + 1 := ⟨i - 1, by omega⟩
                obtain ⟨j1, hj1'⟩ : ∃ j1, j = j1 + 1 := ⟨j - 1, by omega⟩
                have ri : (i : Int) - 1 = (i1 : Int) := by omega
                have rj : (j : Int) - 1 = (j1 : Int) := by omega
                have wi : IntKind.i64.wrap (i1 : Int) = (i1 : Int) := IntWalk.i64_in _ (by omega)
                have wj : IntKind.i64.wrap (j1 : Int) = (j1 : Int) := IntWalk.i64_in _ (by omega)
                have HI : Hid (i = i1 + 1) := hi1'
                have HJ : Hid (j = j1 + 1) := hj1'
                have HJK : Hid ((i : Int) - L + k = j) := hj
                obtain ⟨ca, hca1, hca2⟩ : ∃ c, wr.cell? ⟨ga, i1, none⟩ = some (.int .i32 c) ∧ Hid (A.getD i1 0 = c) := ⟨_, (h3.bel.cell (by exact hga)).trans (hca i1 (by omega)), rfl⟩
                obtain ⟨cb, hcb1, hcb2⟩ : ∃ c, wr.cell? ⟨gb, j1, none⟩ = some (.int .i32 c) ∧ Hid (B.getD j1 0 = c) := ⟨_, (h3.bel.cell (by exact hgb)).trans (hcb j1 (by omega)), rfl⟩
                have bi : (0 : Int) ≤ (i1 : Int) := by omega
                have bi' : (i1 : Int) < (n : Int) := by omega
                have bj : (0 : Int) ≤ (j1 : Int) := by omega
                have bj' : (j1 : Int) < (m : Int) := by omega
                have HCA := (show Hid _ from hca)
                have HCB := (show Hid _ from hcb)
                clear hca hcb hi1' hj1' pp c3 f3
                go_wp2
                go_quiet (fail)
                go_upto_if 87 with fail
                have hcost : (ca == cb) = true ∧ Hid (cost A B i1 j1 = 0) ∨ (ca == cb) = false ∧ Hid (cost A B i1 j1 = 1) := cost_ways hca2.out hcb2.out
                go_cut [19] (fun c w' => c = .int .i64 (cost A B i1 j1) ∧ R3 w w' L W g1 g2 g3 l1 l2 l3)
                case first =>
                  rcases hcost with ⟨h1, h2⟩ | ⟨h1, h2⟩
                  · go_wp2
                    go_meet
                    case rel => exact ⟨by rw [h2.out], h3.drewN _⟩
                  · go_wp2
                    go_meet
                    case rel => exact ⟨by rw [h2.out], h3.drewN _⟩
                case rest =>
                  clear hcost h3 hca1 hcb1
                  obtain ⟨rfl, h3⟩ := hcut
                  obtain ⟨c, HC⟩ : ∃ c, Hid (cost A B i1 j1 = c) := ⟨_, rfl⟩
                  have hc01 : 0 ≤ c ∧ c ≤ 1 := by have := cost_01 A B i1 j1; rw [HC.out] at this; omega
                  rw [HC.out]
                  have hf2 : Hid (∀ t, t < W → l2.getD t 0 = band A B L m i1 t) := fun t ht => by rw [(hst t ht).1, HI.out]; rfl
                  obtain ⟨x1, X1⟩ : ∃ x, Hid (x = min (D A B i1 j) ((L : Int) + 1)) := ⟨_, rfl⟩
                  obtain ⟨x2, X2⟩ : ∃ x, Hid (x = min (D A B i j1) ((L : Int) + 1)) := ⟨_, rfl⟩
                  obtain ⟨x3, X3⟩ : ∃ x, Hid (x = min (D A B i1 j1) ((L : Int) + 1)) := ⟨_, rfl⟩
                  have y1 : 0 ≤ x1 ∧ x1 ≤ 1025 := by have := X1.out; have := D_nonneg A B i1 j; omega
                  have y2 : 0 ≤ x2 ∧ x2 ≤ 1025 := by have := X2.out; have := D_nonneg A B i j1; omega
                  have y3 : 0 ≤ x3 ∧ x3 ≤ 1025 := by have := X3.out; have := D_nonneg A B i1 j1; omega
                  go_wp2_with fail
                  refine (at40n L W g2 _ _ l2 (band A B L m i1) _ x1 _ HW.out hL h3.r2 h3.n2 hf2.out h3.pw h3.pp (by omega) (by rw [X1.out]; exact atv_in A B L m i1 j _ (by have := HI.out; have := HJK.out; omega) (by omega))).mono ?_
                  rintro e w' ⟨rfl, rfl⟩
                  go_wp2_with fail
                  refine (at40n L W g3 _ _ l3 (fun t => l3.getD t 0) _ x2 _ HW.out hL h3.r3 h3.n3 (fun _ _ => rfl) h3.pw h3.pp (by omega) (by rw [X2.out]; exact atv_row hrow.1 (by omega) (by have := HJ.out; have := HJK.out; omega) (by omega))).mono ?_
                  rintro e w' ⟨rfl, rfl⟩
                  go_wp2_with fail
                  refine (at40n L W g2 _ _ l2 (band A B L m i1) _ x3 _ HW.out hL h3.r2 h3.n2 hf2.out h3.pw h3.pp (by omega) (by rw [X3.out]; exact atv_in A B L m i1 j1 _ (by have := HI.out; have := HJ.out; have := HJK.out; omega) (by omega))).mono ?_
                  rintro e w' ⟨rfl, rfl⟩
                  go_upto_region 24 with fail
                  obtain ⟨d, HD⟩ : ∃ d, Hid (d = min (x1 + 1) (min (x2 + 1) (x3 + c))) := ⟨_, rfl⟩
                  have yd : 0 ≤ d ∧ d ≤ 1026 := by have := HD.out; omega
                  rw [gomin3, ← HD.out]
                  go_cut [20, 138] (fun v s w' => v = .int .i64 d ∧ s = .bool (swapB A B i1 j1) ∧ R3 w w' L W g1 g2 g3 l1 l2 l3)
                  case first =>
                    by_cases e1 : i ≤ 1
                    · have d1 : decide ((1 : Int) < (i : Int)) = false := decide_eq_false (by omega)
                      have hs : Hid (swapB A B i1 j1 = false) := swap_no1 (by omega)
                      go_quiet (fail)
                      go_wp2
                      go_meet
                      case rel => exact ⟨rfl, by rw [hs.out], h3.drewN _⟩
                    · have d1 : decide ((1 : Int) < (i : Int)) = true := decide_eq_true (by omega)
                      by_cases e2 : j ≤ 1
                      · have d2 : decide ((1 : Int) < (j : Int)) = false := decide_eq_false (by omega)
                        have hs : Hid (swapB A B i1 j1 = false) := swap_no2 (by omega)
                        go_quiet (fail)
                        go_wp2
                        go_meet
                        case rel => exact ⟨rfl, by rw [hs.out], h3.drewN _⟩
                      · have d2 : decide ((1 : Int) < (j : Int)) = true := decide_eq_true (by omega)
                        obtain ⟨i2, hi2'⟩ : ∃ i2, i = i2 + 2 := ⟨i - 2, by omega⟩
                        obtain ⟨j2, hj2'⟩ : ∃ j2, j = j2 + 2 := ⟨j - 2, by omega⟩
                        have ri2 : (i : Int) - 2 = (i2 : Int) := by omega
                        have rj2 : (j : Int) - 2 = (j2 : Int) := by omega
                        have wi2 : IntKind.i64.wrap (i2 : Int) = (i2 : Int) := IntWalk.i64_in _ (by omega)
                        have wj2 : IntKind.i64.wrap (j2 : Int) = (j2 : Int) := IntWalk.i64_in _ (by omega)
                        have e3 : i1 - 1 = i2 := by omega
                        have e4 : j1 - 1 = j2 := by omega
                        obtain ⟨cb2, hcb21, hcb22⟩ : ∃ c, wc.cell? ⟨gb, j2, none⟩ = some (.int .i32 c) ∧ Hid (B.getD (j1 - 1) 0 = c) := ⟨_, (h3.bel.cell (by exact hgb)).trans (HCB.out j2 (by omega)), by rw [e4]; rfl⟩
                        obtain ⟨ca2, hca21, hca22⟩ : ∃ c, wc.cell? ⟨ga, i2, none⟩ = some (.int .i32 c) ∧ Hid (A.getD (i1 - 1) 0 = c) := ⟨_, (h3.bel.cell (by exact hga)).trans (HCA.out i2 (by omega)), by rw [e3]; rfl⟩
                        have hcai : wc.cell? ⟨ga, i1, none⟩ = some (.int .i32 ca) := by rw [← hca2.out]; exact (h3.bel.cell (by exact hga)).trans (HCA.out i1 (by omega))
                        have hcbj : wc.cell? ⟨gb, j1, none⟩ = some (.int .i32 cb) := by rw [← hcb2.out]; exact (h3.bel.cell (by exact hgb)).trans (HCB.out j1 (by omega))
                        have hs : Hid (swapB A B i1 j1 = (ca == cb2 && ca2 == cb)) := swap_at (by omega) (by omega) hca2.out hca22.out hcb2.out hcb22.out
                        have bi2 : (0 : Int) ≤ (i2 : Int) := by omega
                        have bi2' : (i2 : Int) < (n : Int) := by omega
                        have bj2 : (0 : Int) ≤ (j2 : Int) := by omega
                        have bj2' : (j2 : Int) < (m : Int) := by omega
                        clear hi2' hj2' e3 e4
                        by_cases g3e : ca = cb2
                        · have g3' : (ca == cb2) = true := by simp [g3e]
                          clear g3e
                          go_quiet (fail)
                          go_wp2
                          go_meet
                          case rel => exact ⟨rfl, by rw [hs.out, g3', Bool.true_and], h3.drewN _⟩
                        · have g3' : (ca == cb2) = false := by simp [g3e]
                          clear g3e
                          go_quiet (fail)
                          go_wp2
                          go_meet
                          case rel => exact ⟨rfl, by rw [hs.out, g3', Bool.false_and], h3.drewN _⟩
                  case rest =>
                    clear h3
                    obtain ⟨rfl, rfl, h3⟩ := hcut
                    by_cases hs : swapB A B i1 j1 = true
                    · obtain ⟨s1, s2⟩ := swap_lo A B i1 j1 hs
                      obtain ⟨i2, HI2⟩ : ∃ i2, Hid (i1 = i2 + 1) := ⟨i1 - 1, by unfold Hid; omega⟩
                      obtain ⟨j2, HJ2⟩ : ∃ j2, Hid (j1 = j2 + 1) := ⟨j1 - 1, by unfold Hid; omega⟩
                      obtain ⟨x4, X4⟩ : ∃ x, Hid (x = min (D A B i2 j2) ((L : Int) + 1)) := ⟨_, rfl⟩
                      have y4 : 0 ≤ x4 ∧ x4 ≤ 1025 := by have := X4.out; have := D_nonneg A B i2 j2; omega
                      have hf1 : Hid (∀ t, t < W → l1.getD t 0 = band A B L m i2 t) := fun t ht => by
                        rw [(hst t ht).2 (by omega), show i - 2 = i2 from by have := HI.out; have := HI2.out; omega]
                      have hv : Hid (min (min d (x4 + 1)) ((L : Int) + 1) = band A B L m i k) := by
                        unfold Hid
                        have e := HI.out
                        have e' := HI2.out
                        have f := HJ.out
                        have f' := HJ2.out
                        have eJ := HJK.out
                        rw [HD.out]
                        have key := band_swap A B L m i2 j2 k (by omega) (by omega) (by rw [← e', ← f']; exact hs) x1 x2 x3 c x4 (by rw [X1.out, e', f, f']) (by rw [X2.out, e, e', f']) (by rw [X3.out, e', f']) (by rw [← HC.out, e', f']) X4.out
                        rw [key, e, e']
                      have hS := h3.set3 k (min (min d (x4 + 1)) ((L : Int) + 1))
                      have hR := hrow.step lk (min (min d (x4 + 1)) ((L : Int) + 1)) hv.out
                      have hRH := (show Hid _ from hR)
                      clear hR
                      rw [hs]
                      go_wp2_with fail
                      refine (at40n L W g1 _ _ l1 (band A B L m i2) _ x4 _ HW.out hL h3.r1 h3.n1 hf1.out h3.pw h3.pp (by omega) (by rw [X4.out]; exact atv_in A B L m i2 j2 _ (by have := HI.out; have := HJ.out; have := HJK.out; have := HI2.out; have := HJ2.out; omega) (by have := HJ2.out; omega))).mono ?_
                      rintro e w' ⟨rfl, rfl⟩
                      have pp := h3.pp
                      have c3 := h3.r3.cell k (by rw [h3.n3]; exact hkt)
                      have f3 := h3.r3.frozen k
                      go_wp2
                      go_roundw
                      case rel => exact ⟨k + 1, _, _, by go_num, by omega, rfl, by simp only [gomin]; exact hS, by simp only [gomin]; exact hRH.out⟩
                      case measure => simp [intOf]; omega
                    · have hs' : swapB A B i1 j1 = false := by simpa using hs
                      have hv : Hid (min d ((L : Int) + 1) = band A B L m i k) := by
                        unfold Hid
                        have e := HI.out
                        have f := HJ.out
                        have eJ := HJK.out
                        rw [HD.out]
                        have key := band_plain A B L m i1 j1 k (by omega) (by omega) hs' x1 x2 x3 c (by rw [X1.out, f]) (by rw [X2.out, e]) X3.out HC.out.symm
                        rw [key, e]
                      have hS := h3.set3 k (min d ((L : Int) + 1))
                      have hR := hrow.step lk (min d ((L : Int) + 1)) hv.out
                      have hRH := (show Hid _ from hR)
                      clear hR
                      have pp := h3.pp
                      have c3 := h3.r3.cell k (by rw [h3.n3]; exact hkt)
                      have f3 := h3.r3.frozen k
                      rw [hs']
                      go_wp2
                      go_roundw
                      case rel => exact ⟨k + 1, _, _, by go_num, by omega, rfl, by simp only [gomin]; exact hS, by simp only [gomin]; exact hRH.out⟩
                      case measure => simp [intOf]; omega
              · have pp := h3.pp
                obtain ⟨hw1, hw2, hw3⟩ := hrow
                have hkW : k = W := by omega
                have HW1 : Hid (∀ t, t < W → l3.getD t 0 = band A B L m i t) := fun t ht => hw1 t (by omega)
                by_cases hlz : lz = (L : Int) + 1
                · have hp : Hid (min (D A B n m) ((L : Int) + 1) = (L : Int) + 1) := by
                    unfold Hid
                    have := band_all_past A B L m i n (fun t ht => hw3 hlz t (by omega)) hin
                    omega
                  have hq : (lz == (L : Int) + 1) = true := by simp [hlz]
                  clear hw1 hw3 hlz hkW
                  go_wp2
                  go_ret
                  exact ⟨by rw [hp.out]; rfl, h3.bel⟩
                · have hq : (lz == (L : Int) + 1) = false := by simp [hlz]
                  have hst2 : St A B L m W (i + 1) l2 l3 := fun t ht => ⟨HW1.out t ht, fun _ => (hst t ht).1⟩
                  clear hw1 hw3 hlz hkW hst
                  go_wp2
                  go_roundw
                  case rel => exact ⟨i + 1, g2, g3, g1, l2, l3, l1, rfl, rfl, rfl, by go_num, by omega, by omega, h3.rotate, hst2⟩
                  case measure => simp [intOf]; omega
          · have hi : Hid (i = n + 1) := by unfold Hid; omega
            go_wp2_with fail
            refine (at40 L W g2 _ _ l2 (band A B L m n) _ _ HW.out hL h3.r2 h3.n2 (fun t ht => by have := (hst t ht).1; rw [this, hi.out]; rfl) h3.pw h3.pp (by omega)).mono ?_
            rintro e w' ⟨rfl, rfl⟩
            rw [answer]
            go_wp2
            go_ret
            exact ⟨rfl, h3.bel⟩
end Go.Proofs.Qxb6001681a
