/-
  The full table in one row of numbers: cell (i, j) lies at i*W + j. No Go in sight.
-/
import Derived.Test.Qxb6001681aPlain
namespace Go.Proofs.Qxb6001681a

theorem idx_inj {W i j k l : Nat} (h : i * W + j = k * W + l) (hj : j < W) (hl : l < W) : i = k ∧ j = l := by
  rcases Nat.lt_trichotomy i k with h1 | h1 | h1
  · have : (i + 1) * W ≤ k * W := Nat.mul_le_mul_right W h1
    rw [Nat.succ_mul] at this
    omega
  · subst h1; omega
  · have : (k + 1) * W ≤ i * W := Nat.mul_le_mul_right W h1
    rw [Nat.succ_mul] at this
    omega
theorem idx_lt {n W i j : Nat} (hi : i ≤ n) (hj : j < W) : i * W + j < (n + 1) * W := by
  have : i * W ≤ n * W := Nat.mul_le_mul_right W hi
  rw [Nat.succ_mul]
  omega

/-- Where P holds, the row holds the table. -/
def Kn (A B : List Int) (n m W : Nat) (l : List Int) (P : Nat → Nat → Prop) : Prop := ∀ i j, i ≤ n → j ≤ m → P i j → l.getD (i * W + j) 0 = D A B i j

section
variable {A B : List Int} {n m W : Nat} {l : List Int} {P Q : Nat → Nat → Prop}
theorem Kn.mono (h : Kn A B n m W l P) (hPQ : ∀ i j, i ≤ n → j ≤ m → Q i j → P i j) : Kn A B n m W l Q := fun i j hi hj hq => h i j hi hj (hPQ i j hi hj hq)
theorem Kn.set (h : Kn A B n m W l P) (hW : m < W) (hl : l.length = (n + 1) * W) (i j x : Nat) (v : Int) (hi : i ≤ n) (hj : j ≤ m) (hx : x = i * W + j) (hv : v = D A B i j) :
    Kn A B n m W (l.set x v) (fun i' j' => P i' j' ∨ (i' = i ∧ j' = j)) := by
  intro i' j' hi' hj' hp
  have h1 := idx_lt (W := W) hi (by omega : j < W)
  by_cases he : i' * W + j' = x
  · obtain ⟨rfl, rfl⟩ := idx_inj (he.trans hx) (by omega) (by omega)
    rw [he, List.getD_eq_getElem?_getD, List.getElem?_set_self (by omega), hv]
    rfl
  · have hne : ¬ (i' = i ∧ j' = j) := by rintro ⟨rfl, rfl⟩; omega
    rw [← h i' j' hi' hj' (by rcases hp with h | h; exact h; exact absurd h hne)]
    simp only [List.getD_eq_getElem?_getD]
    rw [List.getElem?_set_ne (by omega)]
end
end Go.Proofs.Qxb6001681a
