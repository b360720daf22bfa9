/-
  The plain side of seat b6001681a: the table of the edit distance with swaps of neighbours, row by row, and what the banded, capped table holds of it. No Go in sight.
-/
import Derived.WalkKit
namespace Go.Proofs.Qxb6001681a

/-- The cost of putting b's j-th for a's i-th (from 0). -/
def cost (A B : List Int) (i j : Nat) : Int := if A.getD i 0 = B.getD j 0 then 0 else 1
/-- Are the last two of the first i+1 and of the first j+1 swapped? -/
def swapB (A B : List Int) (i j : Nat) : Bool := decide (1 ≤ i) && (decide (1 ≤ j) && (A.getD i 0 == B.getD (j - 1) 0 && A.getD (i - 1) 0 == B.getD j 0))

/-- Row i + 1 of the table, out of row i ('prev') and row i - 1 ('before'). -/
def rowStep (A B : List Int) (i : Nat) (prev before : Nat → Int) : Nat → Int
  | 0 => (i : Int) + 1
  | j + 1 =>
    let v := min (prev (j + 1) + 1) (min (rowStep A B i prev before j + 1) (prev j + cost A B i j))
    if swapB A B i j = true then min v (before (j - 1) + 1) else v
/-- Row i and the row before it. -/
def rows (A B : List Int) : Nat → (Nat → Int) × (Nat → Int)
  | 0 => (fun j => (j : Int), fun _ => 0)
  | i + 1 => (rowStep A B i (rows A B i).1 (rows A B i).2, (rows A B i).1)
/-- The distance between the first i of A and the first j of B. -/
def D (A B : List Int) (i j : Nat) : Int := (rows A B i).1 j

/-! ### Capping -/
theorem cap_add (a p c : Int) (h : 0 ≤ c) : min (min a p + c) p = min (a + c) p := by omega
theorem cap_min (x y p : Int) : min (min x y) p = min (min x p) (min y p) := by omega
theorem cap3 (p d1 d2 d3 c : Int) (h : 0 ≤ c) : min (min (min d1 p + 1) (min (min d2 p + 1) (min d3 p + c))) p = min (min (d1 + 1) (min (d2 + 1) (d3 + c))) p := by
  rw [cap_min, cap_min _ (min d3 p + c), cap_add _ _ 1 (by omega), cap_add _ _ 1 (by omega), cap_add _ _ c h, ← cap_min, ← cap_min]
theorem cap4 (p d1 d2 d3 c d4 : Int) (h : 0 ≤ c) : min (min (min (min d1 p + 1) (min (min d2 p + 1) (min d3 p + c))) (min d4 p + 1)) p = min (min (min (d1 + 1) (min (d2 + 1) (d3 + c))) (d4 + 1)) p := by
  rw [cap_min, cap3 p d1 d2 d3 c h, cap_add _ _ 1 (by omega), ← cap_min]

section
variable (A B : List Int)
theorem D_zero (j : Nat) : D A B 0 j = j := rfl
theorem D_left (i : Nat) : D A B i 0 = i := by
  cases i with
  | zero => rfl
  | succ i => show (i : Int) + 1 = _; omega
/-- The three ways without a swap. -/
def three (i j : Nat) : Int := min (D A B i (j + 1) + 1) (min (D A B (i + 1) j + 1) (D A B i j + cost A B i j))
theorem D_plain (i j : Nat) (h : swapB A B i j = false) : D A B (i + 1) (j + 1) = three A B i j := by
  show rowStep A B i _ _ (j + 1) = _
  rw [rowStep]
  simp only [h]
  rfl
theorem D_swap (i j : Nat) (h : swapB A B (i + 1) (j + 1) = true) : D A B (i + 2) (j + 2) = min (three A B (i + 1) (j + 1)) (D A B i j + 1) := by
  show rowStep A B (i + 1) _ _ (j + 1 + 1) = _
  rw [rowStep]
  simp only [h, if_true]
  rfl
theorem swap_lo (i j : Nat) (h : swapB A B i j = true) : 1 ≤ i ∧ 1 ≤ j := by
  simp [swapB] at h
  exact ⟨h.1, h.2.1⟩
theorem cost_01 (i j : Nat) : cost A B i j = 0 ∨ cost A B i j = 1 := by
  unfold cost; split <;> simp
/-- One of the two equations. -/
theorem D_cases (i j : Nat) : D A B (i + 1) (j + 1) = three A B i j ∨ (1 ≤ i ∧ 1 ≤ j ∧ D A B (i + 1) (j + 1) = min (three A B i j) (D A B (i - 1) (j - 1) + 1)) := by
  by_cases h : swapB A B i j = true
  · obtain ⟨h1, h2⟩ := swap_lo A B i j h
    obtain ⟨i, rfl⟩ : ∃ k, i = k + 1 := ⟨i - 1, by omega⟩
    obtain ⟨j, rfl⟩ : ∃ k, j = k + 1 := ⟨j - 1, by omega⟩
    exact .inr ⟨h1, h2, D_swap A B i j h⟩
  · exact .inl (D_plain A B i j (by simpa using h))

theorem D_bounds (i : Nat) : ∀ j, (i : Int) - j ≤ D A B i j ∧ (j : Int) - i ≤ D A B i j ∧ D A B i j ≤ (i : Int) + j := by
  induction i using Nat.strongRecOn with
  | ind i ih =>
    intro j
    induction j with
    | zero => rw [D_left]; omega
    | succ j jh =>
      cases i with
      | zero => rw [D_zero]; omega
      | succ i =>
        have h1 := ih i (by omega) (j + 1)
        have h2 := ih i (by omega) j
        have hc := cost_01 A B i j
        have ht : three A B i j = min (D A B i (j + 1) + 1) (min (D A B (i + 1) j + 1) (D A B i j + cost A B i j)) := rfl
        rcases D_cases A B i j with h | ⟨g1, g2, h⟩
        · rw [h, ht]; omega
        · have h3 := ih (i - 1) (by omega) (j - 1)
          rw [h, ht]; omega

theorem D_nonneg (i j : Nat) : 0 ≤ D A B i j := by
  have := D_bounds A B i j; omega
theorem three_le (i j : Nat) : D A B (i + 1) (j + 1) ≤ D A B i j + 1 := by
  have hc := cost_01 A B i j
  have ht : three A B i j = min (D A B i (j + 1) + 1) (min (D A B (i + 1) j + 1) (D A B i j + cost A B i j)) := rfl
  rcases D_cases A B i j with h | ⟨g1, g2, h⟩ <;> rw [h, ht] <;> omega

/-- A row that lies wholly past p (up to column m): so does the next. -/
theorem past_step (p : Int) (m i : Nat) (h : ∀ j, j ≤ m → p ≤ D A B i j) : ∀ j, j ≤ m → p ≤ D A B (i + 1) j := by
  intro j
  induction j with
  | zero => intro hj; have := h 0 hj; rw [D_left] at this ⊢; omega
  | succ j jh =>
    intro hj
    have h1 := h (j + 1) hj
    have h2 := h j (by omega)
    have h0 := jh (by omega)
    have hc := cost_01 A B i j
    have ht : three A B i j = min (D A B i (j + 1) + 1) (min (D A B (i + 1) j + 1) (D A B i j + cost A B i j)) := rfl
    rcases D_cases A B i j with h' | ⟨g1, g2, h'⟩
    · rw [h', ht]; omega
    · obtain ⟨i, rfl⟩ : ∃ k, i = k + 1 := ⟨i - 1, by omega⟩
      obtain ⟨j, rfl⟩ : ∃ k, j = k + 1 := ⟨j - 1, by omega⟩
      have h3 := three_le A B i j
      have e1 : i + 1 - 1 = i := rfl
      have e2 : j + 1 - 1 = j := rfl
      rw [h', ht, e1, e2]; omega
theorem past_on (p : Int) (m i : Nat) (h : ∀ j, j ≤ m → p ≤ D A B i j) (n : Nat) (hn : i ≤ n) : ∀ j, j ≤ m → p ≤ D A B n j := by
  obtain ⟨t, rfl⟩ : ∃ t, n = i + t := ⟨n - i, by omega⟩
  clear hn
  induction t with
  | zero => exact h
  | succ t ih => exact past_step A B p m (i + t) ih

/-! ### The band -/
/-- Cell k of the banded, capped row i: L is the limit, m the length of B. -/
def band (L m i k : Nat) : Int := if (i : Int) - L + k < 0 ∨ (m : Int) < (i : Int) - L + k then (L : Int) + 1 else min (D A B i ((i : Int) - L + k).toNat) ((L : Int) + 1)
theorem band_le (L m i k : Nat) : band A B L m i k ≤ (L : Int) + 1 := by unfold band; split <;> omega
theorem band_nonneg (L m i k : Nat) : 0 ≤ band A B L m i k := by
  unfold band
  have := D_nonneg A B i ((i : Int) - L + k).toNat
  split <;> omega
theorem band_out (L m i k : Nat) (h : (i : Int) - L + k < 0 ∨ (m : Int) < (i : Int) - L + k) : band A B L m i k = (L : Int) + 1 := by unfold band; rw [if_pos h]
theorem band_in (L m i k j : Nat) (h : (i : Int) - L + k = j) (hj : j ≤ m) : band A B L m i k = min (D A B i j) ((L : Int) + 1) := by
  unfold band; rw [if_neg (by omega), h]; rfl
/-- The first row: the column's number. -/
theorem band_first (L m k j : Nat) (h : (k : Int) - L = j) (hj : j ≤ m) (hk : k < 2 * L + 1) : band A B L m 0 k = j := by
  rw [band_in A B L m 0 k j (by omega) hj, D_zero]; omega
/-- The first column: the row's number, capped. -/
theorem band_left (L m i k : Nat) (h : (i : Int) - L + k = 0) : band A B L m i k = min (i : Int) ((L : Int) + 1) := by
  rw [band_in A B L m i k 0 h (by omega), D_left]
/-- What 'at' answers: past the band, past the limit. -/
def atv (L : Nat) (f : Nat → Int) (k : Int) : Int := if k < 0 ∨ (2 * (L : Int) + 1) ≤ k then (L : Int) + 1 else f k.toNat
theorem atv_in (L m i j : Nat) (k : Int) (h : (i : Int) - L + k = j) (hj : j ≤ m) : atv L (band A B L m i) k = min (D A B i j) ((L : Int) + 1) := by
  have hb := D_bounds A B i j
  unfold atv
  split
  · omega
  · rw [band_in A B L m i k.toNat j (by omega) hj]
/-- The step of the banded row without a swap. -/
theorem band_plain (L m i j k : Nat) (hk : (i : Int) + 1 - L + k = (j : Int) + 1) (hj : j + 1 ≤ m) (hs : swapB A B i j = false) (x y z c : Int)
    (hx : x = min (D A B i (j + 1)) ((L : Int) + 1)) (hy : y = min (D A B (i + 1) j) ((L : Int) + 1)) (hz : z = min (D A B i j) ((L : Int) + 1)) (hc : c = cost A B i j) :
    min (min (x + 1) (min (y + 1) (z + c))) ((L : Int) + 1) = band A B L m (i + 1) k := by
  rw [band_in A B L m (i + 1) k (j + 1) (by omega) hj, D_plain A B i j hs]
  have hc' := cost_01 A B i j
  have ht : three A B i j = min (D A B i (j + 1) + 1) (min (D A B (i + 1) j + 1) (D A B i j + cost A B i j)) := rfl
  rw [ht, hx, hy, hz, hc]
  exact cap3 _ _ _ _ _ (by omega)
/-- .. and with one. -/
theorem band_swap (L m i j k : Nat) (hk : (i : Int) + 2 - L + k = (j : Int) + 2) (hj : j + 2 ≤ m) (hs : swapB A B (i + 1) (j + 1) = true) (x y z c u : Int)
    (hx : x = min (D A B (i + 1) (j + 2)) ((L : Int) + 1)) (hy : y = min (D A B (i + 2) (j + 1)) ((L : Int) + 1)) (hz : z = min (D A B (i + 1) (j + 1)) ((L : Int) + 1)) (hc : c = cost A B (i + 1) (j + 1)) (hu : u = min (D A B i j) ((L : Int) + 1)) :
    min (min (min (x + 1) (min (y + 1) (z + c))) (u + 1)) ((L : Int) + 1) = band A B L m (i + 2) k := by
  rw [band_in A B L m (i + 2) k (j + 2) (by omega) hj, D_swap A B i j hs]
  have hc' := cost_01 A B (i + 1) (j + 1)
  have ht : three A B (i + 1) (j + 1) = min (D A B (i + 1) (j + 2) + 1) (min (D A B (i + 2) (j + 1) + 1) (D A B (i + 1) (j + 1) + cost A B (i + 1) (j + 1))) := rfl
  rw [ht, hx, hy, hz, hc, hu]
  exact cap4 _ _ _ _ _ _ (by omega)
/-- A banded row that holds nothing but 'past': the distance is past the limit. -/
theorem band_all_past (L m i n : Nat) (h : ∀ k, k < 2 * L + 1 → band A B L m i k = (L : Int) + 1) (hn : i ≤ n) : (L : Int) + 1 ≤ D A B n m := by
  refine past_on A B _ m i (fun j hj => ?_) n hn m (by omega)
  have hb := D_bounds A B i j
  by_cases hband : (j : Int) - i ≤ L ∧ (i : Int) - j ≤ L
  · have := h ((j : Int) - i + L).toNat (by omega)
    rw [band_in A B L m i _ j (by omega) hj] at this
    omega
  · omega
/-- The answer. -/
theorem answer (L n m : Nat) : atv L (band A B L m n) ((m : Int) - n + L) = min (D A B n m) ((L : Int) + 1) :=
  atv_in A B L m n m _ (by omega) (by omega)
end
end Go.Proofs.Qxb6001681a
