import Derived.Test.Qxb6001733aBlanks
import Derived.OpenShut
namespace Go.Proofs.Qxb6001733a
open Go.RowKit
set_option linter.unusedVariables false

theorem Skip.past {l : List Int} {k r : Nat} (h : Skip l k r) (hk : l.length ≤ k) : r = k := by
  have := h.lo
  rcases h.hi with h | h <;> omega
theorem Skip.within {l : List Int} {k r n : Nat} (h : Skip l k r) (hn : l.length = n) (hk : k < n) : r ≤ n := by
  rcases h.hi with h | h <;> omega
theorem Txt.row {w : World} {ao : Option Addr} {n : Nat} {l : List Int} (h : Txt w ao n l) (hn : 0 < n) : ∃ g, ao = some ⟨g, 0, none⟩ ∧ ∀ i, i < n → w.cell? ⟨g, i, none⟩ = some (.int .i32 (l.getD i 0)) := by
  rcases h.2 with ⟨_, h0⟩ | h
  · omega
  · exact h

theorem pick_cell {W : World} {g n : Nat} {b : Bool} {l : List Int} (hc : ∀ i, i < n → W.cell? ⟨g, i, none⟩ = some (.int .i32 (l.getD i 0))) (j : Nat) (hj : j < n) (hb : blankB (l.getD j 0) = b) : ∃ c, W.cell? ⟨g, j, none⟩ = some (.int .i32 c) ∧ blankB c = b :=
  ⟨_, hc j hj, hb⟩

theorem clone9' (a : Option Addr) (len cap : Nat) (zs : List Int) (w : World) (h : IsRow .i32 w a len cap zs) (hl : len ≤ 1048576) :
    Calls Try.prog 9 #[.slice a len cap] w fun e w' => ∃ ao l, e = .returned (.slice ao len len) ∧ Txt w' ao len l ∧ Below w.heap.size w w' :=
  (clone9 a len cap zs w h hl).mono fun _ _ ⟨ao, h1, h2, h3⟩ => ⟨ao, _, h1, h2, h3⟩

theorem zz8 (a : Option Addr) (len cap : Nat) (x : Int) (w : World) (hl : len ≤ 9223372036854775807) :
    Calls Try.prog 8 #[.slice a len cap, .int .i64 x] w fun e w' => e = .returned (.bool (decide (len ≤ 1048576))) ∧ w' = w := by
  by_cases h : len ≤ 1048576
  · go_enter Try.func8, Try.ntmps8
    go_wp2
    go_ret
    exact ⟨by simp [h], rfl⟩
  · go_enter Try.func8, Try.ntmps8
    go_wp2
    go_ret
    exact ⟨by simp [h], rfl⟩

set_option maxHeartbeats 400000 in
theorem spec_walk (a0 : Option Addr) (len0 cap0 : Nat) (z0 : List Int) (a1 : Int) (w : World) (w0 : IsRow .i32 w a0 len0 cap0 z0) (w1 : (Lit.int .i64 a1).wf = true) :
    Calls Try.prog 3 #[.slice a0 len0 cap0, .int .i64 a1] w fun e w' => e = .returned (.bool true) ∧ Below w.heap.size w w' := by
  have hlen : len0 ≤ 9223372036854775807 := by
    rcases w0 with ⟨_, h, _, _⟩ | ⟨x, _, h1, h2, _⟩
    · omega
    · unfold maxLen at h2; omega
  have hx := bounds_i64 w1
  by_cases h1 : len0 ≤ 1048576
  case neg =>
    have hd : decide (len0 ≤ 1048576) = false := by simpa using h1
    go_enter Try.func3, Try.ntmps3
    go_wp2_with (go_at_call 8; refine (zz8 _ _ _ _ _ hlen).mono ?_; rintro e w' ⟨rfl, rfl⟩)
    go_ret
    exact ⟨rfl, Below.refl _ _⟩
  have hd : decide (len0 ≤ 1048576) = true := by simpa using h1
  by_cases h2 : 262144 < len0
  case pos =>
    go_enter Try.func3, Try.ntmps3
    go_wp2_with (go_at_call 8; refine (zz8 _ _ _ _ _ hlen).mono ?_; rintro e w' ⟨rfl, rfl⟩)
    go_ret
    exact ⟨rfl, Below.refl _ _⟩
  by_cases h3 : a1 < 0
  case pos =>
    go_enter Try.func3, Try.ntmps3
    go_wp2_with (go_at_call 8; refine (zz8 _ _ _ _ _ hlen).mono ?_; rintro e w' ⟨rfl, rfl⟩)
    go_ret
    exact ⟨rfl, Below.refl _ _⟩
  obtain ⟨k, rfl⟩ := Int.eq_ofNat_of_zero_le (by omega : 0 ≤ a1)
  by_cases h4 : len0 ≤ k
  case pos =>
    go_enter Try.func3, Try.ntmps3
    go_wp2_with (first | (go_at_call 8; refine (zz8 _ _ _ _ _ hlen).mono ?_; rintro e w' ⟨rfl, rfl⟩) | (go_at_call 9; refine (clone9' a0 len0 cap0 z0 _ w0 h1).mono ?_; rintro e wc ⟨ao, l, rfl, hT, hb⟩) | (go_at_call 10; refine (skip10 l ao len0 k _ hT h1 (by omega)).mono ?_; rintro e w' ⟨r, rfl, hs, rfl⟩))
    go_ret
    have hr := hs.past (by rw [hT.1]; exact h4)
    exact ⟨by rw [hr]; simp, hb⟩
  go_enter Try.func3, Try.ntmps3
  go_wp2_with (first | (go_at_call 8; refine (zz8 _ _ _ _ _ hlen).mono ?_; rintro e w' ⟨rfl, rfl⟩) | (go_at_call 9; refine (clone9' a0 len0 cap0 z0 _ w0 h1).mono ?_; rintro e wc ⟨ao, l, rfl, hT, hb⟩) | (go_at_call 10; refine (skip10 l ao len0 k _ hT h1 (by omega)).mono ?_; rintro e w' ⟨r, rfl, hs, rfl⟩; have g1 := hs.lo; have g2 := hs.within hT.1 (by omega); have q1 : decide (r < k) = false := decide_eq_false (by omega); have q2 : decide (len0 < r) = false := decide_eq_false (by omega)))
  obtain ⟨g, hao, hc⟩ := hT.row (by omega)
  rw [hao]
  have HC := (show Hid _ from hc)
  have hlk := hT.1
  clear hao hc
  go_loop [6] (fun i => ∃ j : Nat, i = .int .i64 j ∧ k ≤ j ∧ j ≤ r) (fun i => r - (intOf i).toNat)
  case atStart => exact ⟨k, rfl, by omega, g1⟩
  case round =>
    obtain ⟨j, rfl, j1, j2⟩ := hrel
    by_cases hlt : j < r
    · obtain ⟨c, hcj, hbk⟩ := pick_cell HC.out j (by omega) (hs.run j j1 hlt)
      go_wp2_with (go_at_call 11; refine (isBlankRune_any _ _).mono ?_; rintro e w' ⟨rfl, rfl⟩)
      go_round
      case rel => exact ⟨j + 1, by go_num, by omega, by omega⟩
      case measure => simp [intOf]; omega
    · by_cases hrl : r < len0
      · obtain ⟨c, hcj, hbk⟩ := pick_cell HC.out r hrl (hs.stop (by omega))
        go_wp2_with (go_at_call 11; refine (isBlankRune_any _ _).mono ?_; rintro e w' ⟨rfl, rfl⟩)
        go_ret
        exact ⟨rfl, hb⟩
      · go_wp2_with (go_at_call 11; refine (isBlankRune_any _ _).mono ?_; rintro e w' ⟨rfl, rfl⟩)
        go_ret
        exact ⟨rfl, hb⟩

end Go.Proofs.Qxb6001733a
