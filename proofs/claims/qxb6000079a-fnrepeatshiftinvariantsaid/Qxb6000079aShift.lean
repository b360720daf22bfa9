import Derived.Test.Qxb6000079aRepeat
import Derived.OpenShut
namespace Go.Proofs.Qxb6000079a
open Go.RowKit
set_option linter.unusedVariables false

/-! ### The plain law -/
theorem extract_all (s : ByteArray) : s.extract 0 s.size = s := by
  ext1
  simp
theorem extract_extract' (s : ByteArray) (i M : Nat) (h : i + M ≤ s.size) : (s.extract i s.size).extract 0 (0 + M) = s.extract i (i + M) := by
  ext1
  simp only [ByteArray.data_extract, Array.extract_extract]
  congr 1
  have : s.data.size = s.size := rfl
  omega
theorem nxt_shift (s : ByteArray) (i k : Nat) (h : i ≤ s.size) : nxt s (i + k) = nxt (s.extract i s.size) k + i := by
  unfold nxt
  rw [bt_extract s i k h]
  split <;> omega
theorem nxt_le (s : ByteArray) (k : Nat) (h : k ≤ s.size) : (k : Int) ≤ nxt s k ∧ nxt s k ≤ s.size := by
  by_cases hk : bt s k = 63
  · have := bt_lt s k (by omega)
    unfold nxt; rw [if_pos hk]; omega
  · unfold nxt; rw [if_neg hk]; omega

theorem shift_plain (s : ByteArray) (i : Nat) (hi : i < s.size) (m : Int) (lz : Bool) (hc : CountIs (s.extract i s.size) m lz) :
    (∃ N : Int, rep s i m lz = (N + i, ⟨#[]⟩) ∧ rep (s.extract i s.size) 0 m lz = (N, ⟨#[]⟩) ∧ 0 < N ∧ N + i ≤ s.size) ∨
    (∃ B : ByteArray, rep s i m lz = (0, B) ∧ rep (s.extract i s.size) 0 m lz = (0, B) ∧ 0 < B.size ∧ bt B 0 = 123) := by
  have hsz : (s.extract i s.size).size = s.size - i := by rw [ByteArray.size_extract]; omega
  have hb0 : bt (s.extract i s.size) 0 = bt s i := bt_extract s i 0 (by omega)
  by_cases c1 : bt s i = 123
  · rcases hc with hg | ⟨rfl, rfl, _⟩
    · obtain ⟨g1, g2, _⟩ := hg.shape
      obtain ⟨M, rfl⟩ := Int.eq_ofNat_of_zero_le (by omega : 0 ≤ m)
      rw [hsz] at g2
      cases lz with
      | true =>
        refine .inr ⟨s.extract i (i + M), ?_, ?_, ?_, ?_⟩
        · unfold rep; rw [if_pos c1, if_neg (by omega), if_pos rfl]; rfl
        · unfold rep; rw [hb0, if_pos c1, if_neg (by omega), if_pos rfl, ← extract_extract' s i M (by omega)]; rfl
        · rw [ByteArray.size_extract]; omega
        · have h1 : 0 < (s.extract i (i + M)).size := by rw [ByteArray.size_extract]; omega
          rw [bt_eq _ _ h1, ByteArray.getElem_extract h1, ← c1, bt_eq s i hi]
          rfl
      | false =>
        refine .inl ⟨nxt (s.extract i s.size) M, ?_, ?_, ?_, ?_⟩
        · unfold rep; rw [if_pos c1, if_neg (by omega), if_neg (by simp), ← nxt_shift s i M (by omega)]; rfl
        · unfold rep; rw [hb0, if_pos c1, if_neg (by omega), if_neg (by simp), Nat.zero_add]; rfl
        · have := (nxt_le (s.extract i s.size) M (by omega)).1; omega
        · have := (nxt_le (s.extract i s.size) M (by omega)).2; omega
    · refine .inr ⟨⟨#[123]⟩, ?_, ?_, by decide, by decide⟩
      · unfold rep; rw [if_pos c1, if_pos (by omega)]
      · unfold rep; rw [hb0, if_pos c1, if_pos (by omega)]
  · refine .inl ⟨nxt (s.extract i s.size) 1, ?_, ?_, ?_, ?_⟩
    · unfold rep; rw [if_neg c1, ← nxt_shift s i 1 (by omega)]
    · unfold rep; rw [hb0, if_neg c1]
    · have := (nxt_le (s.extract i s.size) 1 (by omega)).1; omega
    · have := (nxt_le (s.extract i s.size) 1 (by omega)).2; omega

theorem toList_ne (B : ByteArray) (h : 0 < B.size) : B.toList.isEmpty = false := by
  rw [ByteArray.toList_eq, List.isEmpty_eq_false_iff]
  intro h0
  have h1 : B.data.toList.length = B.size := rfl
  rw [h0] at h1
  simp at h1
  omega

/-! ### The walk -/
theorem zz14 (s : ByteArray) (a b c : Int) (w : World) (hl : s.size ≤ 9223372036854775807) :
    Calls Try.prog 14 #[.string s, .int .i64 a, .int .i64 b, .int .i64 c] w fun e w' => e = .returned (.bool (decide (s.size ≤ 1048576))) ∧ w = w' := by
  by_cases h : s.size ≤ 1048576
  · go_enter Try.func14, Try.ntmps14
    go_wp2
    go_ret
    exact ⟨by simp [h], rfl⟩
  · go_enter Try.func14, Try.ntmps14
    go_wp2
    go_ret
    exact ⟨by simp [h], rfl⟩

theorem repeat12_of (s : ByteArray) (ii : Int) (i : Nat) (hii : ii = i) (hi : i < s.size) (hs : s.size ≤ 1048576) (m : Int) (lz : Bool) (hc : CountIs (s.extract i s.size) m lz) (p c : Int) (w : World) (N : Int) (B : ByteArray) (hr : rep s i m lz = (N, B)) :
    Calls Try.prog 12 #[.string s, .int .i64 p, .int .i64 c, .int .i64 ii] w fun e w' => e = .returned (.tuple #[.int .i64 N, .string B]) ∧ Below w.heap.size w w' := by
  subst hii
  have := repeat12 s i hi hs m lz hc p c w
  rw [hr] at this
  exact this

set_option maxHeartbeats 400000 in
theorem shift_walk (s : ByteArray) (a1 a2 a3 : Int) (w0 : s.size ≤ maxLen) (w1 : (Lit.int .i64 a1).wf = true) (w2 : (Lit.int .i64 a2).wf = true) (w3 : (Lit.int .i64 a3).wf = true) (w : World) :
    Calls Try.prog 6 #[.string s, .int .i64 a1, .int .i64 a2, .int .i64 a3] w fun e w' => e = .returned (.bool true) ∧ Below w.heap.size w w' := by
  unfold maxLen at w0
  by_cases h : s.size ≤ 1048576
  case neg =>
    have hd : decide (s.size ≤ 1048576) = false := decide_eq_false h
    go_enter Try.func6, Try.ntmps6
    go_wp2_with (go_at_call 14; refine (zz14 _ _ _ _ _ w0).mono ?_; rintro e w' ⟨rfl, rfl⟩)
    go_ret
    exact ⟨rfl, Below.refl _ _⟩
  have hd : decide (s.size ≤ 1048576) = true := decide_eq_true h
  by_cases h1 : a3 < 0
  case pos =>
    go_enter Try.func6, Try.ntmps6
    go_wp2_with (go_at_call 14; refine (zz14 _ _ _ _ _ w0).mono ?_; rintro e w' ⟨rfl, rfl⟩)
    go_ret
    exact ⟨rfl, Below.refl _ _⟩
  obtain ⟨i, rfl⟩ := Int.eq_ofNat_of_zero_le (by omega : 0 ≤ a3)
  by_cases h2 : i < s.size
  case neg =>
    go_enter Try.func6, Try.ntmps6
    go_wp2_with (go_at_call 14; refine (zz14 _ _ _ _ _ w0).mono ?_; rintro e w' ⟨rfl, rfl⟩)
    go_ret
    exact ⟨rfl, Below.refl _ _⟩
  obtain ⟨m, lz, hc⟩ := count_exists (s.extract i s.size)
  have hsz : Hid ((s.extract i s.size).size = s.size - i) := by unfold Hid; rw [ByteArray.size_extract]; omega
  have hc2 : CountIs ((s.extract i s.size).extract 0 (s.extract i s.size).size) m lz := by rw [extract_all]; exact hc
  rcases shift_plain s i h2 m lz hc with ⟨N, r1, r2, n1, n2⟩ | ⟨B, r1, r2, n1, n2⟩
  · have R1 := (show Hid _ from r1)
    have R2 := (show Hid _ from r2)
    clear r1 r2
    go_enter Try.func6, Try.ntmps6
    go_wp2_with (go_at_call 14; refine (zz14 _ _ _ _ _ w0).mono ?_; rintro e w' ⟨rfl, rfl⟩)
    refine (repeat12_of s _ i rfl h2 h m lz hc _ _ _ _ _ R1.out).mono ?_
    rintro e w1 ⟨rfl, hb1⟩
    go_wp2_with fail
    refine (repeat12_of (s.extract i s.size) _ 0 rfl (by rw [hsz.out]; omega) (by rw [hsz.out]; omega) m lz hc2 _ _ _ _ _ R2.out).mono ?_
    rintro e w2 ⟨rfl, hb2⟩
    go_wp2
    go_ret
    exact ⟨by simp, hb1.trans (hb2.mono hb1.size)⟩
  · have R1 := (show Hid _ from r1)
    have R2 := (show Hid _ from r2)
    clear r1 r2
    go_enter Try.func6, Try.ntmps6
    go_wp2_with (go_at_call 14; refine (zz14 _ _ _ _ _ w0).mono ?_; rintro e w' ⟨rfl, rfl⟩)
    refine (repeat12_of s _ i rfl h2 h m lz hc _ _ _ _ _ R1.out).mono ?_
    rintro e w1 ⟨rfl, hb1⟩
    go_wp2_with fail
    refine (repeat12_of (s.extract i s.size) _ 0 rfl (by rw [hsz.out]; omega) (by rw [hsz.out]; omega) m lz hc2 _ _ _ _ _ R2.out).mono ?_
    rintro e w2 ⟨rfl, hb2⟩
    have hne : B.toList.isEmpty = false := toList_ne B n1
    have hB0 : ((B[0].toNat : Int) == 123) = true := by rw [← bt_eq B 0 n1, n2]; rfl
    go_wp2
    go_ret
    exact ⟨by simp, hb1.trans (hb2.mono hb1.size)⟩
end Go.Proofs.Qxb6000079a
