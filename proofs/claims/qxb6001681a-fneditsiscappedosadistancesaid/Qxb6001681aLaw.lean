import Derived.Test.Qxb6001681aOsa
import Derived.Test.Qxb6001681aEdits
import Derived.OpenShut
namespace Go.Proofs.Qxb6001681a
open Go.RowKit
set_option linter.unusedVariables false

/-! ### What stays behind a call that writes nothing old -/
theorem IsRow.below {k : IntKind} {w w' : World} {a : Option Addr} {len cap : Nat} {zs : List Int} (h : IsRow k w a len cap zs) (hb : Below w.heap.size w w') : IsRow k w' a len cap zs := by
  rcases h with h | ⟨x, h1, h2, h3, h4, h5, h6⟩
  · exact .inl h
  · exact .inr ⟨x, h1, h2, h3, h4, fun i hi => (hb.cell (World.block_lt_of_cell? w _ (h5 i hi))).trans (h5 i hi), h6⟩
theorem Txt.below {w w' : World} {ao : Option Addr} {n : Nat} {l : List Int} (h : Txt w ao n l) (hb : Below w.heap.size w w') : Txt w' ao n l := by
  obtain ⟨h1, h2⟩ := h
  refine ⟨h1, ?_⟩
  rcases h2 with h2 | ⟨g, h2, h3⟩
  · exact .inl h2
  · exact .inr ⟨g, h2, fun i hi => (hb.cell (World.block_lt_of_cell? w _ (h3 i hi))).trans (h3 i hi)⟩

/-! ### The law's callees -/
/-- Some bool is returned. -/
def IsBool (e : Ending) : Prop := ∃ b, e = .returned (.bool b)
theorem zz15_any (a b : Option Addr) (n m c d : Nat) (x : Int) (w : World) (hn : n ≤ 9223372036854775807) (hm : m ≤ 9223372036854775807) :
    Calls Try.prog 15 #[.slice a n c, .slice b m d, .int .i64 x] w fun e w' => IsBool e ∧ w = w' := by
  by_cases h1 : n ≤ 1048576
  · by_cases h2 : m ≤ 1048576
    · by_cases h3 : n + m ≤ 1048576
      · go_enter Try.func15, Try.ntmps15
        go_wp2
        go_ret
        exact ⟨⟨_, rfl⟩, rfl⟩
      · go_enter Try.func15, Try.ntmps15
        go_wp2
        go_ret
        exact ⟨⟨_, rfl⟩, rfl⟩
    · go_enter Try.func15, Try.ntmps15
      go_wp2
      go_ret
      exact ⟨⟨_, rfl⟩, rfl⟩
  · go_enter Try.func15, Try.ntmps15
    go_wp2
    go_ret
    exact ⟨⟨_, rfl⟩, rfl⟩

theorem edits17 (A B : List Int) (ao bo : Option Addr) (n m L : Nat) (w : World) (hA : Txt w ao n A) (hB : Txt w bo m B) (hn : n ≤ 1024) (hm : m ≤ 1024) (hL : L ≤ 1024) :
    Calls Try.prog 17 #[.slice ao n n, .slice bo m m, .int .i64 L] w fun e w' => e = .returned (.int .i64 (min (D A B n m) ((L : Int) + 1))) ∧ Below w.heap.size w w' := by
  go_enter Try.func17, Try.ntmps17
  go_wp2_with fail
  refine (edits31 A B ao bo n m L w hA hB hn hm hL).mono ?_
  rintro e w1 ⟨rfl, hb⟩
  go_wp2
  go_ret
  exact ⟨rfl, hb⟩

set_option maxHeartbeats 1000000 in
theorem edits_walk (a0 : Option Addr) (len0 cap0 : Nat) (z0 : List Int) (a1 : Option Addr) (len1 cap1 : Nat) (z1 : List Int) (a2 : Int) (w : World) (w0 : IsRow .i32 w a0 len0 cap0 z0) (w1 : IsRow .i32 w a1 len1 cap1 z1) (w2 : (Lit.int .i64 a2).wf = true) :
    Calls Try.prog 5 #[.slice a0 len0 cap0, .slice a1 len1 cap1, .int .i64 a2] w fun e w' => e = .returned (.bool true) ∧ Below w.heap.size w w' := by
  have hl0 : len0 ≤ 9223372036854775807 := by
    rcases w0 with ⟨_, h, _, _⟩ | ⟨x, _, h1, h2, _⟩
    · omega
    · unfold maxLen at h2; omega
  have hl1 : len1 ≤ 9223372036854775807 := by
    rcases w1 with ⟨_, h, _, _⟩ | ⟨x, _, h1, h2, _⟩
    · omega
    · unfold maxLen at h2; omega
  have hx := bounds_i64 w2
  by_cases h1 : len0 ≤ 1024
  case neg =>
    go_enter Try.func5, Try.ntmps5
    go_wp2_with fail
    refine (zz15_any _ _ _ _ _ _ _ _ hl0 hl1).mono ?_
    rintro e w' ⟨⟨b, rfl⟩, rfl⟩
    cases b with
    | true => go_wp2; go_ret; exact ⟨rfl, Below.refl _ _⟩
    | false => go_wp2; go_ret; exact ⟨rfl, Below.refl _ _⟩
  by_cases h2 : len1 ≤ 1024
  case neg =>
    go_enter Try.func5, Try.ntmps5
    go_wp2_with fail
    refine (zz15_any _ _ _ _ _ _ _ _ hl0 hl1).mono ?_
    rintro e w' ⟨⟨b, rfl⟩, rfl⟩
    cases b with
    | true => go_wp2; go_ret; exact ⟨rfl, Below.refl _ _⟩
    | false => go_wp2; go_ret; exact ⟨rfl, Below.refl _ _⟩
  by_cases h3 : a2 < 0
  case pos =>
    go_enter Try.func5, Try.ntmps5
    go_wp2_with (go_at_call 15; refine (zz15 _ _ _ _ _ _ _ _ h1 h2).mono ?_; rintro e w' ⟨rfl, rfl⟩)
    go_ret
    exact ⟨rfl, Below.refl _ _⟩
  obtain ⟨L, rfl⟩ := Int.eq_ofNat_of_zero_le (by omega : 0 ≤ a2)
  by_cases h4 : L ≤ 1024
  case neg =>
    go_enter Try.func5, Try.ntmps5
    go_wp2_with (go_at_call 15; refine (zz15 _ _ _ _ _ _ _ _ h1 h2).mono ?_; rintro e w' ⟨rfl, rfl⟩)
    go_ret
    exact ⟨rfl, Below.refl _ _⟩
  go_enter Try.func5, Try.ntmps5
  go_wp2_with fail
  refine (zz15 _ _ _ _ _ _ _ _ h1 h2).mono ?_
  rintro e w' ⟨rfl, hw'⟩
  subst hw'
  go_wp2_with fail
  refine (clone16 a0 len0 cap0 z0 _ w0 (by omega)).mono ?_
  rintro e wa ⟨ao, rfl, hA, hb1⟩
  go_wp2_with fail
  refine (clone16 a1 len1 cap1 z1 _ (w1.below hb1) (by omega)).mono ?_
  rintro e wb ⟨bo, rfl, hB, hb2⟩
  have hA2 := hA.below hb2
  generalize z0.take len0 = A at *
  generalize z1.take len1 = B at *
  go_wp2_with fail
  refine (edits17 A B ao bo len0 len1 L _ hA2 hB h1 h2 h4).mono ?_
  rintro e wd ⟨rfl, hb3⟩
  have hA3 := hA2.below hb3
  have hB3 := hB.below hb3
  go_wp2_with fail
  refine (osa18 A B ao bo len0 len1 _ hA3 hB3 h1 h2).mono ?_
  rintro e we ⟨rfl, hb4⟩
  have hbel : Below _ _ we := ((hb1.trans (hb2.mono hb1.size)).trans (hb3.mono (hb1.trans (hb2.mono hb1.size)).size)).trans (hb4.mono ((hb1.trans (hb2.mono hb1.size)).trans (hb3.mono (hb1.trans (hb2.mono hb1.size)).size)).size)
  have hd0 := D_nonneg A B len0 len1
  generalize D A B len0 len1 = d at *
  go_wp2
  · go_ret
    exact ⟨by simp; omega, hbel⟩
  · go_ret
    exact ⟨by simp; omega, hbel⟩
end Go.Proofs.Qxb6001681a
