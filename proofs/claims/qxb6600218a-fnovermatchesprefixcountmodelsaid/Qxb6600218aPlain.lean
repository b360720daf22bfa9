/-
  The plain side of seat b6600218a: what slots weigh, starts of what a master may give, the count of moves. No Go in sight.
-/
import Derived.WalkKit
namespace Go.Proofs.Qxb6600218a
set_option linter.unusedVariables false

/-- What slot s weighs: nothing past the end. -/
def wOf (W : List Int) (s : Int) : Int := if 0 ≤ s ∧ s < W.length then W.getD s.toNat 0 else 0
/-- What the first j of av weigh together. -/
def psum (W av : List Int) : Nat → Int
  | 0 => 0
  | j + 1 => psum W av j + wOf W (av.getD j 0)
/-- Of the starts shorter than j: how many leave load o at or over the limit. -/
def cnt (W av : List Int) (o lim : Int) : Nat → Nat
  | 0 => 0
  | j + 1 => cnt W av o lim j + (if lim ≤ o - psum W av j then 1 else 0)

def Nonneg (W : List Int) : Prop := ∀ i, 0 ≤ W.getD i 0
section
variable {W av : List Int} {o lim : Int}
theorem wOf_nonneg (h : Nonneg W) (s : Int) : 0 ≤ wOf W s := by
  unfold wOf; split
  · exact h _
  · omega
theorem psum_mono (h : Nonneg W) {i j : Nat} (hij : i ≤ j) : psum W av i ≤ psum W av j := by
  obtain ⟨t, rfl⟩ : ∃ t, j = i + t := ⟨j - i, by omega⟩
  clear hij
  induction t with
  | zero => exact Int.le_refl _
  | succ t ih =>
    have := wOf_nonneg h (av.getD (i + t) 0)
    show _ ≤ psum W av (i + t) + wOf W (av.getD (i + t) 0)
    omega
theorem psum_nonneg (h : Nonneg W) (j : Nat) : 0 ≤ psum W av j := psum_mono h (Nat.zero_le j)
/-- While every shorter start leaves it over, the count is the length. -/
theorem cnt_all {j : Nat} (h : ∀ i, i < j → lim ≤ o - psum W av i) : cnt W av o lim j = j := by
  induction j with
  | zero => rfl
  | succ j ih =>
    show cnt W av o lim j + _ = _
    rw [ih (fun i hi => h i (by omega)), if_pos (h j (by omega))]
/-- Behind the first start that does not, nothing is counted. -/
theorem cnt_stop (hW : Nonneg W) {j n : Nat} (hj : o - psum W av j < lim) (hn : j ≤ n) : cnt W av o lim n = cnt W av o lim j := by
  obtain ⟨t, rfl⟩ : ∃ t, n = j + t := ⟨n - j, by omega⟩
  clear hn
  induction t with
  | zero => rfl
  | succ t ih =>
    have hp := psum_mono (W := W) (av := av) hW (show j ≤ j + t by omega)
    have he : cnt W av o lim (j + t + 1) = cnt W av o lim (j + t) + (if lim ≤ o - psum W av (j + t) then 1 else 0) := rfl
    show cnt W av o lim (j + t + 1) = _
    rw [he, ih, if_neg (by omega)]
    rfl
theorem cnt_mono {i j : Nat} (h : i ≤ j) : cnt W av o lim i ≤ cnt W av o lim j := by
  obtain ⟨t, rfl⟩ : ∃ t, j = i + t := ⟨j - i, by omega⟩
  clear h
  induction t with
  | zero => exact Nat.le_refl _
  | succ t ih => show _ ≤ cnt W av o lim (i + t) + _; omega
theorem cnt_le (j : Nat) : cnt W av o lim j ≤ j := by
  induction j with
  | zero => exact Nat.le_refl _
  | succ j ih => show cnt W av o lim j + _ ≤ _; split <;> omega
end

/-! ### All masters -/
/-- What master m may still give. -/
def avail (H : List (List Int)) (Nx : List Int) (m : Nat) : List Int := (H.getD m []).drop (Nx.getD m 0).toNat
section
variable (W : List Int) (H : List (List Int)) (O Nx : List Int) (lim : Int)
def need (m : Nat) : Nat := cnt W (avail H Nx m) (O.getD m 0) lim (avail H Nx m).length
def endl (m : Nat) : Bool := decide (lim ≤ O.getD m 0 - psum W (avail H Nx m) (avail H Nx m).length)
/-- The needs of the masters before m that are at or over the limit, summed; and whether one of them is endless. -/
def tot : Nat → Nat
  | 0 => 0
  | m + 1 => tot m + (if lim ≤ O.getD m 0 then need W H O Nx lim m else 0)
def ends : Nat → Bool
  | 0 => false
  | m + 1 => ends m || (decide (lim ≤ O.getD m 0) && endl W H O Nx lim m)
end
section
variable {W : List Int} {H : List (List Int)} {O Nx : List Int} {lim : Int}
theorem tot_mono {i j : Nat} (h : i ≤ j) : tot W H O Nx lim i ≤ tot W H O Nx lim j := by
  obtain ⟨t, rfl⟩ : ∃ t, j = i + t := ⟨j - i, by omega⟩
  clear h
  induction t with
  | zero => exact Nat.le_refl _
  | succ t ih => show _ ≤ tot W H O Nx lim (i + t) + _; omega
theorem ends_mono {i j : Nat} (h : i ≤ j) (he : ends W H O Nx lim i = true) : ends W H O Nx lim j = true := by
  obtain ⟨t, rfl⟩ : ∃ t, j = i + t := ⟨j - i, by omega⟩
  clear h
  induction t with
  | zero => exact he
  | succ t ih => show (ends W H O Nx lim (i + t) || _) = true; rw [ih]; rfl

/-- b is the heaviest master before m at or over the limit, the lowest of those that tie; -1: none. -/
def Best (O : List Int) (lim : Int) (m : Nat) (b : Int) : Prop :=
  (b = -1 ∧ ∀ i, i < m → O.getD i 0 < lim) ∨
  ∃ k : Nat, b = k ∧ k < m ∧ lim ≤ O.getD k 0 ∧ (∀ i, i < m → lim ≤ O.getD i 0 → O.getD i 0 ≤ O.getD k 0) ∧ ∀ i, i < k → lim ≤ O.getD i 0 → O.getD i 0 < O.getD k 0
theorem best_zero : Best O lim 0 (-1) := .inl ⟨rfl, fun i hi => by omega⟩
theorem best_skip {m : Nat} {b : Int} (h : Best O lim m b) (hm : O.getD m 0 < lim) : Best O lim (m + 1) b := by
  rcases h with ⟨h1, h2⟩ | ⟨k, h1, h2, h3, h4, h5⟩
  · exact .inl ⟨h1, fun i hi => by by_cases e : i = m; (· rw [e]; exact hm); exact h2 i (by omega)⟩
  · exact .inr ⟨k, h1, by omega, h3, fun i hi hl => by by_cases e : i = m; (· rw [e] at hl; omega); exact h4 i (by omega) hl, h5⟩
theorem best_first {m : Nat} {b : Int} (h : Best O lim m b) (hb : b < 0) (hm : lim ≤ O.getD m 0) : Best O lim (m + 1) m := by
  rcases h with ⟨h1, h2⟩ | ⟨k, h1, _⟩
  · refine .inr ⟨m, rfl, by omega, hm, fun i hi hl => ?_, fun i hi hl => ?_⟩
    · by_cases e : i = m
      · rw [e]; exact Int.le_refl _
      · have := h2 i (by omega); omega
    · have := h2 i hi; omega
  · omega
theorem best_more {m k : Nat} (h : Best O lim m k) (hm : lim ≤ O.getD m 0) (hg : O.getD k 0 < O.getD m 0) : Best O lim (m + 1) m := by
  rcases h with ⟨h1, h2⟩ | ⟨k', h1, h2, h3, h4, h5⟩
  · omega
  · obtain rfl : k = k' := by omega
    refine .inr ⟨m, rfl, by omega, hm, fun i hi hl => ?_, fun i hi hl => ?_⟩
    · by_cases e : i = m
      · rw [e]; exact Int.le_refl _
      · have := h4 i (by omega) hl; omega
    · have := h4 i hi hl; omega
theorem best_same {m k : Nat} (h : Best O lim m k) (hm : lim ≤ O.getD m 0) (hg : ¬ O.getD k 0 < O.getD m 0) : Best O lim (m + 1) k := by
  rcases h with ⟨h1, h2⟩ | ⟨k', h1, h2, h3, h4, h5⟩
  · omega
  · obtain rfl : k = k' := by omega
    refine .inr ⟨k, rfl, by omega, h3, fun i hi hl => ?_, h5⟩
    by_cases e : i = m
    · rw [e]; omega
    · exact h4 i (by omega) hl
theorem Best.unique {m : Nat} {b c : Int} (h : Best O lim m b) (g : Best O lim m c) : b = c := by
  rcases h with ⟨h1, h2⟩ | ⟨k, h1, h2, h3, h4, h5⟩
  · rcases g with ⟨g1, g2⟩ | ⟨l, g1, g2, g3, _⟩
    · omega
    · have := h2 l g2; omega
  · rcases g with ⟨g1, g2⟩ | ⟨l, g1, g2, g3, g4, g5⟩
    · have := g2 k h2; omega
    · have a1 := h4 l g2 g3
      have a2 := g4 k h2 h3
      rcases Nat.lt_trichotomy k l with e | e | e
      · have := g5 k e h3; omega
      · omega
      · have := h5 l e g3; omega
theorem Best.in {m : Nat} {b : Int} (h : Best O lim m b) (hb : 0 ≤ b) : b < m ∧ lim ≤ O.getD b.toNat 0 := by
  rcases h with ⟨h1, h2⟩ | ⟨k, h1, h2, h3, _⟩
  · omega
  · rw [h1]; exact ⟨by omega, h3⟩
theorem Best.some {m i : Nat} {b : Int} (h : Best O lim m b) (hi : i < m) (hl : lim ≤ O.getD i 0) : 0 ≤ b := by
  rcases h with ⟨h1, h2⟩ | ⟨k, h1, _⟩
  · have := h2 i hi; omega
  · omega

/-- What over(depth) answers. -/
def OverIs (W : List Int) (H : List (List Int)) (O Nx : List Int) (lim : Int) (d : Nat) (gm gn : Int) : Prop :=
  (ends W H O Nx lim O.length = false ∧ tot W H O Nx lim O.length ≤ d → Best O lim O.length gm ∧ gn = tot W H O Nx lim O.length) ∧
  (¬ (ends W H O Nx lim O.length = false ∧ tot W H O Nx lim O.length ≤ d) → gn = d + 1 ∧ 0 ≤ gm ∧ gm < O.length ∧ lim ≤ O.getD gm.toNat 0)

/-- It has come to the end: no master was endless, and the needs sum to at most depth + 1. -/
theorem over_end {d : Nat} {gm : Int} (hb : Best O lim O.length gm) (he : ends W H O Nx lim O.length = false) (ht : tot W H O Nx lim O.length ≤ d + 1) : OverIs W H O Nx lim d gm (tot W H O Nx lim O.length) := by
  refine ⟨fun _ => ⟨hb, rfl⟩, fun hn => ?_⟩
  have h1 : tot W H O Nx lim O.length = d + 1 := by
    by_cases h : tot W H O Nx lim O.length ≤ d
    · exact absurd ⟨he, h⟩ hn
    · omega
  have h2 : 0 ≤ gm := by
    rcases hb with ⟨h1', h2⟩ | ⟨k, h, _⟩
    · exfalso
      have hz : ∀ m, m ≤ O.length → tot W H O Nx lim m = 0 := by
        intro m
        induction m with
        | zero => intro _; rfl
        | succ m ih =>
          intro hm
          show tot W H O Nx lim m + _ = 0
          have := h2 m (by omega)
          rw [ih (by omega), if_neg (by omega)]
      have := hz _ (Nat.le_refl _)
      omega
    · omega
  obtain ⟨h3, h4⟩ := hb.in h2
  exact ⟨by omega, h2, h3, h4⟩
/-- It returns early: at a master that is endless, or whose need passes the depth. -/
theorem over_early {d m : Nat} {gm : Int} (hm : m < O.length) (hb : Best O lim (m + 1) gm) (ho : lim ≤ O.getD m 0) (h : endl W H O Nx lim m = true ∨ d < tot W H O Nx lim m + need W H O Nx lim m) : OverIs W H O Nx lim d gm (d + 1) := by
  have hg := hb.some (i := m) (by omega) ho
  obtain ⟨h1, h2⟩ := hb.in hg
  refine ⟨fun hc => ?_, fun _ => ⟨rfl, hg, by omega, h2⟩⟩
  exfalso
  rcases h with h | h
  · have : ends W H O Nx lim (m + 1) = true := by
      show (_ || (decide _ && _)) = true
      rw [h, decide_eq_true ho]; simp
    have := ends_mono (j := O.length) (by omega) this
    rw [hc.1] at this
    simp at this
  · have h3 : tot W H O Nx lim (m + 1) = tot W H O Nx lim m + need W H O Nx lim m := by
      show _ + (if _ then _ else _) = _
      rw [if_pos ho]
    have := tot_mono (W := W) (H := H) (O := O) (Nx := Nx) (lim := lim) (show m + 1 ≤ O.length by omega)
    omega
end
end Go.Proofs.Qxb6600218a
