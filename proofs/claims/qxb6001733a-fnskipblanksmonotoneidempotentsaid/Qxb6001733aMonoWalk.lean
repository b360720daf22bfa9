import Derived.Test.Qxb6001733aBlanks
import Derived.OpenShut
namespace Go.Proofs.Qxb6001733a
open Go.RowKit
set_option linter.unusedVariables false

/-! ### The plain law -/
theorem Skip.mono {l : List Int} {a b ra rb : Nat} (ha : Skip l a ra) (hb : Skip l b rb) (h : a ≤ b) : ra ≤ rb := by
  have h1 := ha.lo
  have h2 := hb.lo
  by_cases hlt : rb < ra
  · have h3 : ra ≤ l.length := by rcases ha.hi with h | h <;> omega
    have h4 := hb.stop (by omega)
    have h5 := ha.run rb (by omega) hlt
    rw [h4] at h5
    simp at h5
  · omega
theorem Skip.again {l : List Int} {k r s : Nat} (h : Skip l k r) (g : Skip l r s) : s = r := by
  have h1 := g.lo
  by_cases hlt : r < s
  · have h3 : s ≤ l.length := by rcases g.hi with h | h <;> omega
    have h4 := h.stop (by omega)
    have h5 := g.run r (Nat.le_refl _) hlt
    rw [h4] at h5
    simp at h5
  · omega

/-! ### The walk -/
theorem clone9m (a : Option Addr) (len cap : Nat) (zs : List Int) (w : World) (h : IsRow .i32 w a len cap zs) (hl : len ≤ 1048576) :
    Calls Try.prog 9 #[.slice a len cap] w fun e w' => ∃ ao l, e = .returned (.slice ao len len) ∧ Txt w' ao len l ∧ Below w.heap.size w w' :=
  (clone9 a len cap zs w h hl).mono fun _ _ ⟨ao, h1, h2, h3⟩ => ⟨ao, _, h1, h2, h3⟩

theorem zz12 (a : Option Addr) (len cap : Nat) (x y : Int) (w : World) (hl : len ≤ 9223372036854775807) :
    Calls Try.prog 12 #[.slice a len cap, .int .i64 x, .int .i64 y] w fun e w' => e = .returned (.bool (decide (len ≤ 1048576))) ∧ w' = w := by
  by_cases h : len ≤ 1048576
  · go_enter Try.func12, Try.ntmps12
    go_wp2
    go_ret
    exact ⟨by simp [h], rfl⟩
  · go_enter Try.func12, Try.ntmps12
    go_wp2
    go_ret
    exact ⟨by simp [h], rfl⟩

theorem skip10b (l : List Int) (ao : Option Addr) (n k : Nat) (w : World) (hv : Txt w ao n l) (hl : n ≤ 1048576) (hk : k ≤ 9223372036854775807) :
    Calls Try.prog 10 #[.slice ao n n, .int .i64 k] w fun e w' => ∃ r : Nat, e = .returned (.int .i64 r) ∧ Skip l k r ∧ r ≤ 9223372036854775807 ∧ w = w' :=
  (skip10 l ao n k w hv hl hk).mono fun _ _ ⟨r, h1, h2, h3⟩ => ⟨r, h1, h2, by have := hv.1; rcases h2.hi with h | h <;> omega, h3.symm⟩

set_option maxHeartbeats 400000 in
theorem mono_walk (a0 : Option Addr) (len0 cap0 : Nat) (z0 : List Int) (a1 a2 : Int) (w : World) (w0 : IsRow .i32 w a0 len0 cap0 z0) (w1 : (Lit.int .i64 a1).wf = true) (w2 : (Lit.int .i64 a2).wf = true) :
    Calls Try.prog 4 #[.slice a0 len0 cap0, .int .i64 a1, .int .i64 a2] w fun e w' => e = .returned (.bool true) ∧ Below w.heap.size w w' := by
  have hlen : len0 ≤ 9223372036854775807 := by
    rcases w0 with ⟨_, h, _, _⟩ | ⟨x, _, h1, h2, _⟩
    · omega
    · unfold maxLen at h2; omega
  have hx := bounds_i64 w1
  have hy := bounds_i64 w2
  by_cases h1 : len0 ≤ 1048576
  case neg =>
    have hd : decide (len0 ≤ 1048576) = false := by simpa using h1
    go_enter Try.func4, Try.ntmps4
    go_wp2_with (go_at_call 12; refine (zz12 _ _ _ _ _ _ hlen).mono ?_; rintro e w' ⟨rfl, rfl⟩)
    go_ret
    exact ⟨rfl, Below.refl _ _⟩
  have hd : decide (len0 ≤ 1048576) = true := by simpa using h1
  by_cases h2 : 262144 < len0
  case pos =>
    go_enter Try.func4, Try.ntmps4
    go_wp2_with (go_at_call 12; refine (zz12 _ _ _ _ _ _ hlen).mono ?_; rintro e w' ⟨rfl, rfl⟩)
    go_ret
    exact ⟨rfl, Below.refl _ _⟩
  by_cases h3 : a1 < 0
  case pos =>
    go_enter Try.func4, Try.ntmps4
    go_wp2_with (go_at_call 12; refine (zz12 _ _ _ _ _ _ hlen).mono ?_; rintro e w' ⟨rfl, rfl⟩)
    go_ret
    exact ⟨rfl, Below.refl _ _⟩
  by_cases h4 : a2 < 0
  case pos =>
    go_enter Try.func4, Try.ntmps4
    go_wp2_with (go_at_call 12; refine (zz12 _ _ _ _ _ _ hlen).mono ?_; rintro e w' ⟨rfl, rfl⟩)
    go_ret
    exact ⟨rfl, Below.refl _ _⟩
  obtain ⟨x, rfl⟩ := Int.eq_ofNat_of_zero_le (by omega : 0 ≤ a1)
  obtain ⟨y, rfl⟩ := Int.eq_ofNat_of_zero_le (by omega : 0 ≤ a2)
  by_cases h5 : y < x
  · go_enter Try.func4, Try.ntmps4
    go_wp2_with (first | (go_at_call 12; refine (zz12 _ _ _ _ _ _ hlen).mono ?_; rintro e w' ⟨rfl, rfl⟩) | (go_at_call 9; refine (clone9m a0 len0 cap0 z0 _ w0 h1).mono ?_; rintro e wc ⟨ao, l, rfl, hT, hb⟩))
    refine (skip10b l ao len0 y _ hT h1 (by omega)).mono ?_
    rintro e w1 ⟨ra, rfl, sa, ba, rfl⟩
    have la := sa.lo
    go_wp2_with fail
    refine (skip10b l ao len0 x _ hT h1 (by omega)).mono ?_
    rintro e w1 ⟨rb, rfl, sb, bb, rfl⟩
    have lab := sa.mono sb (by omega)
    go_wp2_with fail
    refine (skip10b l ao len0 ra _ hT h1 (by omega)).mono ?_
    rintro e w1 ⟨r1, rfl, s1, _, rfl⟩
    obtain rfl := sa.again s1
    go_wp2_with fail
    refine (skip10b l ao len0 rb _ hT h1 (by omega)).mono ?_
    rintro e w1 ⟨r2, rfl, s2, _, rfl⟩
    obtain rfl := sb.again s2
    go_wp2_with fail
    go_ret
    exact ⟨by simp, hb⟩
  · go_enter Try.func4, Try.ntmps4
    go_wp2_with (first | (go_at_call 12; refine (zz12 _ _ _ _ _ _ hlen).mono ?_; rintro e w' ⟨rfl, rfl⟩) | (go_at_call 9; refine (clone9m a0 len0 cap0 z0 _ w0 h1).mono ?_; rintro e wc ⟨ao, l, rfl, hT, hb⟩))
    refine (skip10b l ao len0 x _ hT h1 (by omega)).mono ?_
    rintro e w1 ⟨ra, rfl, sa, ba, rfl⟩
    have la := sa.lo
    go_wp2_with fail
    refine (skip10b l ao len0 y _ hT h1 (by omega)).mono ?_
    rintro e w1 ⟨rb, rfl, sb, bb, rfl⟩
    have lab := sa.mono sb (by omega)
    go_wp2_with fail
    refine (skip10b l ao len0 ra _ hT h1 (by omega)).mono ?_
    rintro e w1 ⟨r1, rfl, s1, _, rfl⟩
    obtain rfl := sa.again s1
    go_wp2_with fail
    refine (skip10b l ao len0 rb _ hT h1 (by omega)).mono ?_
    rintro e w1 ⟨r2, rfl, s2, _, rfl⟩
    obtain rfl := sb.again s2
    go_wp2_with fail
    go_ret
    exact ⟨by simp, hb⟩
end Go.Proofs.Qxb6001733a
