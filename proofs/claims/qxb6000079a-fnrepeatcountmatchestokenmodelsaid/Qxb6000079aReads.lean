import Derived.Test.Qxb6000079aCount
namespace Go.Proofs.Qxb6000079a
open Go.RowKit
set_option linter.unusedVariables false

/-! ### The plain law: what follows the count does not change it -/
theorem lead_congr {s t : ByteArray} {k r : Nat} (h : bt t k = bt s k) : lead t k r = lead s k r := by unfold lead; rw [h]
theorem good_congr {s t : ByteArray} {n : Int} {a : Bool} (h : Good s n a) (hb : ∀ k : Nat, (k : Int) < n → bt t k = bt s k) : Good t n a := by
  obtain ⟨e, e1, ed, h⟩ := h
  refine ⟨e, e1, fun i h1 h2 => ?_, ?_⟩
  · rw [hb i (by rcases h with ⟨_, h, _⟩ | ⟨_, f, _, _, _, h, _⟩ <;> omega)]; exact ed i h1 h2
  · rcases h with ⟨h1, h2, h3⟩ | ⟨h1, f, h2, h3, h4, h5, h6⟩
    · refine .inl ⟨by rw [hb e (by omega)]; exact h1, h2, ?_⟩
      rw [h3, lead_congr (hb 1 (by omega))]
    · refine .inr ⟨by rw [hb e (by omega)]; exact h1, f, h2, fun i i1 i2 => by rw [hb i (by omega)]; exact h3 i i1 i2, by rw [hb f (by omega)]; exact h4, h5, ?_⟩
      rw [h6, lead_congr (hb 1 (by omega)), lead_congr (hb (e + 1) (by omega))]

theorem bt_extract (t : ByteArray) (i k : Nat) (h : i ≤ t.size) : bt (t.extract i t.size) k = bt t (i + k) := by
  by_cases hk : i + k < t.size
  · have h1 : k < (t.extract i t.size).size := by rw [ByteArray.size_extract]; omega
    rw [bt_eq _ _ h1, bt_eq _ _ hk, ByteArray.getElem_extract h1]
  · rw [bt_past t (i + k) (by omega), bt_past _ k (by rw [ByteArray.size_extract]; omega)]

theorem bt_append {t u : ByteArray} {m k : Nat} (hm : m ≤ t.size) (hk : k < m) : bt (t.extract 0 m ++ u) k = bt t k := by
  have h1 : k < (t.extract 0 m).size := by rw [ByteArray.size_extract]; omega
  have h2 : k < (t.extract 0 m ++ u).size := by rw [ByteArray.size_append]; omega
  have h3 : k < t.size := by omega
  rw [bt_eq _ _ h2, bt_eq _ _ h3, ByteArray.getElem_append_left h1, ByteArray.getElem_extract h1]
  simp

/-! ### The walk -/
theorem zz10_yes (t u : ByteArray) (w : World) (h : t.size + u.size ≤ 1048576) :
    Calls Try.prog 10 #[.string t, .string u] w fun e w' => e = .returned (.bool true) ∧ w = w' := by
  go_enter Try.func10, Try.ntmps10
  go_wp2
  go_ret
  exact ⟨rfl, rfl⟩
theorem zz10_no (t u : ByteArray) (w : World) (ht : t.size ≤ 9223372036854775807) (hu : u.size ≤ 9223372036854775807) (h : ¬ t.size + u.size ≤ 1048576) :
    Calls Try.prog 10 #[.string t, .string u] w fun e w' => e = .returned (.bool false) ∧ w = w' := by
  by_cases h1 : t.size ≤ 1048576
  · by_cases h2 : u.size ≤ 1048576
    · go_enter Try.func10, Try.ntmps10
      go_wp2
      go_ret
      exact ⟨rfl, rfl⟩
    · go_enter Try.func10, Try.ntmps10
      go_wp2
      go_ret
      exact ⟨rfl, rfl⟩
  · go_enter Try.func10, Try.ntmps10
    go_wp2
    go_ret
    exact ⟨rfl, rfl⟩

set_option maxHeartbeats 400000 in
theorem reads_walk (t u : ByteArray) (ht : t.size ≤ maxLen) (hu : u.size ≤ maxLen) (w : World) :
    Calls Try.prog 4 #[.string t, .string u] w fun e w' => e = .returned (.bool true) ∧ Below w.heap.size w w' := by
  unfold maxLen at ht hu
  by_cases h : t.size + u.size ≤ 1048576
  case neg =>
    go_enter Try.func4, Try.ntmps4
    go_wp2_with (go_at_call 10; refine (zz10_no t u _ ht hu h).mono ?_; rintro e w' ⟨rfl, rfl⟩)
    go_ret
    exact ⟨rfl, Below.refl _ _⟩
  go_enter Try.func4, Try.ntmps4
  go_wp2_with (first | (go_at_call 10; refine (zz10_yes t u _ h).mono ?_; rintro e w' ⟨rfl, rfl⟩))
  refine (count8 t _ (by omega)).mono ?_
  rintro e w1 ⟨n, lz, rfl, hc, hb⟩
  rcases hc with hg | ⟨rfl, rfl, _⟩
  · obtain ⟨s1, s2, s3⟩ := hg.shape
    obtain ⟨q, rfl⟩ : ∃ q : Nat, n = q + 1 := ⟨(n - 1).toNat, by omega⟩
    have hq : q < t.size := by omega
    have q3 : ((t[q].toNat : Int) != 125) = false := by
      rw [show ((q : Int) + 1 - 1).toNat = q from by omega, bt_eq t q hq] at s3
      rw [s3]; rfl
    clear s3
    go_wp2_with fail
    refine (count8 (t.extract 0 (q + 1) ++ u) _ (by rw [ByteArray.size_append, ByteArray.size_extract]; omega)).mono ?_
    rintro e w2 ⟨n2, lz2, rfl, hc2, hb2⟩
    obtain ⟨rfl, rfl⟩ := count_unique hc2 (.inl (good_congr hg fun k hk => bt_append (by omega) (by omega)))
    clear hc2
    go_wp2
    go_ret
    exact ⟨by simp, hb.trans (hb2.mono hb.size)⟩
  · go_wp2
    go_ret
    exact ⟨rfl, hb⟩
end Go.Proofs.Qxb6000079a
