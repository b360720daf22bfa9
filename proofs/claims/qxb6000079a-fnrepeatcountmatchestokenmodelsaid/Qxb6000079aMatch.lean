import Derived.Test.Qxb6000079aModel
namespace Go.Proofs.Qxb6000079a
open Go.RowKit
set_option linter.unusedVariables false

theorem zz7 (s : ByteArray) (w : World) (hl : s.size ≤ 9223372036854775807) :
    Calls Try.prog 7 #[.string s] w fun e w' => e = .returned (.bool (decide (s.size ≤ 1048576))) ∧ w = w' := by
  by_cases h : s.size ≤ 1048576
  · go_enter Try.func7, Try.ntmps7
    go_wp2
    go_ret
    exact ⟨by simp [h], rfl⟩
  · go_enter Try.func7, Try.ntmps7
    go_wp2
    go_ret
    exact ⟨by simp [h], rfl⟩

set_option maxHeartbeats 400000 in
theorem match_walk (s : ByteArray) (w0 : s.size ≤ maxLen) (w : World) :
    Calls Try.prog 3 #[.string s] w fun e w' => e = .returned (.bool true) ∧ Below w.heap.size w w' := by
  unfold maxLen at w0
  by_cases h : s.size ≤ 1048576
  case neg =>
    have hd : decide (s.size ≤ 1048576) = false := decide_eq_false h
    go_enter Try.func3, Try.ntmps3
    go_wp2_with (go_at_call 7; refine (zz7 _ _ w0).mono ?_; rintro e w' ⟨rfl, rfl⟩)
    go_ret
    exact ⟨rfl, Below.refl _ _⟩
  have hd : decide (s.size ≤ 1048576) = true := decide_eq_true h
  go_enter Try.func3, Try.ntmps3
  go_wp2_with (go_at_call 7; refine (zz7 _ _ w0).mono ?_; rintro e w' ⟨rfl, rfl⟩)
  refine (count8 s _ h).mono ?_
  rintro e w1 ⟨n, lz, rfl, hc, hb⟩
  go_wp2_with fail
  refine (model9_of s n lz hc _ h).mono ?_
  rintro e w2 ⟨rfl, rfl⟩
  go_wp2
  go_ret
  exact ⟨by simp, hb⟩
end Go.Proofs.Qxb6000079a
