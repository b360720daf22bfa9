import Derived.Test.Qxb6000079aModel
import Derived.Test.Qxb6000079aShift
namespace Go.Proofs.Qxb6000079a
open Go.RowKit
set_option linter.unusedVariables false

set_option maxHeartbeats 400000 in
theorem prefix13 (p s : ByteArray) (w : World) (hs : s.size ≤ 1048576) (hp : p.size ≤ s.size) (hb : ∀ k : Nat, k < p.size → bt p k = bt s k) :
    Calls Try.prog 13 #[.string p, .string s] w fun e w' => e = .returned (.bool true) ∧ Below w.heap.size w w' := by
  have HB : Hid (∀ k : Nat, k < p.size → bt p k = bt s k) := hb
  clear hb
  go_enter Try.func13, Try.ntmps13
  go_wp2
  go_loopw [5] (fun i wr => ∃ k : Nat, i = .int .i64 k ∧ k ≤ p.size ∧ Below w.heap.size w wr) (fun i _ => p.size - (intOf i).toNat)
  case atStart => exact ⟨0, rfl, by omega, Below.refl _ _⟩
  case round =>
    obtain ⟨k, rfl, hk, hbel⟩ := hrel
    by_cases hlt : k < p.size
    · have hlt2 : k < s.size := by omega
      have he : ((p[k].toNat : Int) != (s[k].toNat : Int)) = false := by
        rw [← bt_eq, ← bt_eq, HB.out k hlt]; simp
      have b0 : (0 : Int) ≤ (k : Int) := by omega
      have b1 : (k : Int) < (p.size : Int) := by omega
      have b2 : (k : Int) < (s.size : Int) := by omega
      go_wp2
      go_quiet (fail)
      go_wp2
      go_roundw
      case rel => exact ⟨k + 1, by go_num, by omega, below_drewN hbel _⟩
      case measure => simp [intOf]; omega
    · go_wp2
      go_ret
      exact ⟨rfl, hbel⟩

theorem zz11 (s : ByteArray) (a b c : Int) (w : World) (hl : s.size ≤ 9223372036854775807) :
    Calls Try.prog 11 #[.string s, .int .i64 a, .int .i64 b, .int .i64 c] w fun e w' => e = .returned (.bool (decide (s.size ≤ 1048576))) ∧ w = w' := by
  by_cases h : s.size ≤ 1048576
  · go_enter Try.func11, Try.ntmps11
    go_wp2
    go_ret
    exact ⟨by simp [h], rfl⟩
  · go_enter Try.func11, Try.ntmps11
    go_wp2
    go_ret
    exact ⟨by simp [h], rfl⟩

/-- Refused: no count follows. -/
theorem refuse_none (s : ByteArray) (i : Nat) (hi : i < s.size) (hs : s.size ≤ 1048576) (hc : CountIs (s.extract i s.size) (-1) false) (c1 : bt s i = 123) (a1 a2 : Int) (w : World) :
    Calls Try.prog 5 #[.string s, .int .i64 a1, .int .i64 a2, .int .i64 i] w fun e w' => e = .returned (.bool true) ∧ Below w.heap.size w w' := by
  have hd : decide (s.size ≤ 1048576) = true := decide_eq_true hs
  have R : Hid (rep s i (-1) false = (0, ⟨#[123]⟩)) := by unfold Hid rep; rw [if_pos c1, if_pos (by omega)]
  have c1' : ((s[i].toNat : Int) == 123) = true := by rw [← bt_eq, c1]; rfl
  have HP : Hid (∀ k : Nat, k < (⟨#[123]⟩ : ByteArray).size → bt ⟨#[123]⟩ k = bt (s.extract i s.size) k) := by
    intro k hk
    have h0 : k = 0 := by have : (⟨#[123]⟩ : ByteArray).size = 1 := rfl; omega
    rw [h0, bt_extract s i 0 (by omega), Nat.add_zero, c1]
    decide
  have HS : Hid ((⟨#[123]⟩ : ByteArray).size ≤ (s.extract i s.size).size) := by
    unfold Hid
    rw [ByteArray.size_extract, show (⟨#[123]⟩ : ByteArray).size = 1 from rfl]; omega
  clear c1
  go_enter Try.func5, Try.ntmps5
  go_wp2_with (go_at_call 11; refine (zz11 _ _ _ _ _ (by omega)).mono ?_; rintro e w' ⟨rfl, rfl⟩)
  refine (repeat12_of s _ i rfl hi hs (-1) false hc _ _ _ _ _ R.out).mono ?_
  rintro e w1 ⟨rfl, hb1⟩
  go_wp2_with fail
  refine (model9_of (s.extract i s.size) (-1) false hc _ (by rw [ByteArray.size_extract]; omega)).mono ?_
  rintro e w2 ⟨rfl, rfl⟩
  go_wp2_with (go_at_call 13; refine (prefix13 _ _ _ (by rw [ByteArray.size_extract]; omega) HS.out HP.out).mono ?_; rintro e w3 ⟨rfl, hb3⟩)
  go_ret
  exact ⟨by rfl, hb1.trans (hb3.mono hb1.size)⟩

/-- Refused: the count has a leading zero. -/
theorem refuse_lead (s : ByteArray) (i M : Nat) (hi : i < s.size) (hs : s.size ≤ 1048576) (hg : Good (s.extract i s.size) M true) (c1 : bt s i = 123) (a1 a2 : Int) (w : World) :
    Calls Try.prog 5 #[.string s, .int .i64 a1, .int .i64 a2, .int .i64 i] w fun e w' => e = .returned (.bool true) ∧ Below w.heap.size w w' := by
  have hd : decide (s.size ≤ 1048576) = true := decide_eq_true hs
  have hc : CountIs (s.extract i s.size) M true := .inl hg
  have R : Hid (rep s i M true = (0, s.extract i (i + M))) := by unfold Hid rep; rw [if_pos c1, if_neg (by omega), if_pos rfl]; rfl
  have c1' : ((s[i].toNat : Int) == 123) = true := by rw [← bt_eq, c1]; rfl
  obtain ⟨g1, g2, _⟩ := hg.shape
  rw [ByteArray.size_extract] at g2
  have hsz : (s.extract i (i + M)).size = M := by rw [ByteArray.size_extract]; omega
  have h0 : 0 < (s.extract i (i + M)).size := by omega
  have hB : bt (s.extract i (i + M)) 0 = 123 := by
    rw [bt_eq _ _ h0, ByteArray.getElem_extract h0, ← c1, bt_eq s i hi]
    rfl
  have HP : Hid (∀ k : Nat, k < (s.extract i (i + M)).size → bt (s.extract i (i + M)) k = bt (s.extract i s.size) k) := by
    intro k hk
    rw [bt_extract s i k (by omega), bt_eq _ _ hk, ByteArray.getElem_extract hk, bt_eq s (i + k) (by omega)]
  have HS : Hid ((s.extract i (i + M)).size ≤ (s.extract i s.size).size) := by
    unfold Hid
    rw [hsz, ByteArray.size_extract]; omega
  clear c1 g2
  generalize s.extract i (i + M) = B at *
  have hne : B.toList.isEmpty = false := toList_ne B h0
  have hB0 : ((B[0].toNat : Int) != 123) = false := by rw [← bt_eq B 0 h0, hB]; rfl
  have H2 : Hid (B.size = M) := hsz
  clear hsz hB
  go_enter Try.func5, Try.ntmps5
  go_wp2_with (go_at_call 11; refine (zz11 _ _ _ _ _ (by omega)).mono ?_; rintro e w' ⟨rfl, rfl⟩)
  refine (repeat12_of s _ i rfl hi hs M true hc _ _ _ _ _ R.out).mono ?_
  rintro e w1 ⟨rfl, hb1⟩
  go_wp2_with fail
  refine (model9_of (s.extract i s.size) M true hc _ (by rw [ByteArray.size_extract]; omega)).mono ?_
  rintro e w2 ⟨rfl, rfl⟩
  go_wp2_with (go_at_call 13; refine (prefix13 _ _ _ (by rw [ByteArray.size_extract]; omega) HS.out HP.out).mono ?_; rintro e w3 ⟨rfl, hb3⟩)
  go_ret
  exact ⟨by show Ending.returned (.bool ((B.size : Int) == (M : Int))) = _; rw [H2.out]; simp, hb1.trans (hb3.mono hb1.size)⟩

set_option maxHeartbeats 1000000 in
/-- Accepted: what is asked of the index behind: 'core' bytes, then perhaps a lazy mark. -/
theorem accept_plain (s : ByteArray) (i : Nat) (hi : i < s.size) (hs : s.size ≤ 1048576) (m : Int) (lz : Bool) (hc : CountIs (s.extract i s.size) m lz) (c1 : bt s i ≠ 123) (a1 a2 : Int) (w : World) :
    Calls Try.prog 5 #[.string s, .int .i64 a1, .int .i64 a2, .int .i64 i] w fun e w' => e = .returned (.bool true) ∧ Below w.heap.size w w' := by
  have hd : decide (s.size ≤ 1048576) = true := decide_eq_true hs
  have c1' : ((s[i].toNat : Int) == 123) = false := by rw [← bt_eq]; simpa using c1
  have R0 : Hid (rep s i m lz = (nxt s (i + 1), ⟨#[]⟩)) := by unfold Hid rep; rw [if_neg c1]
  clear c1
  by_cases hq : bt s (i + 1) = 63
  · have hlt := bt_lt s (i + 1) (by omega)
    have hq' : ((s[i + 1].toNat : Int) == 63) = true := by rw [← bt_eq, hq]; rfl
    have R : Hid (rep s i m lz = ((i : Int) + 1 + 1, ⟨#[]⟩)) := by unfold Hid; rw [R0.out]; unfold nxt; rw [if_pos hq]; rfl
    clear R0 hq
    go_enter Try.func5, Try.ntmps5
    go_wp2_with (go_at_call 11; refine (zz11 _ _ _ _ _ (by omega)).mono ?_; rintro e w' ⟨rfl, rfl⟩)
    refine (repeat12_of s _ i rfl hi hs m lz hc _ _ _ _ _ R.out).mono ?_
    rintro e w1 ⟨rfl, hb1⟩
    go_wp2_with fail
    refine (model9_of (s.extract i s.size) m lz hc _ (by rw [ByteArray.size_extract]; omega)).mono ?_
    rintro e w2 ⟨rfl, rfl⟩
    go_wp2
    go_ret
    refine ⟨?_, hb1⟩
    first | rfl | (simp; done) | (simp; omega)
  · have R : Hid (rep s i m lz = ((i : Int) + 1, ⟨#[]⟩)) := by unfold Hid; rw [R0.out]; unfold nxt; rw [if_neg hq]; rfl
    by_cases hlt : i + 1 < s.size
    · have hq' : ((s[i + 1].toNat : Int) != 63) = true := by rw [← bt_eq]; simpa using hq
      clear R0 hq
      go_enter Try.func5, Try.ntmps5
      go_wp2_with (go_at_call 11; refine (zz11 _ _ _ _ _ (by omega)).mono ?_; rintro e w' ⟨rfl, rfl⟩)
      refine (repeat12_of s _ i rfl hi hs m lz hc _ _ _ _ _ R.out).mono ?_
      rintro e w1 ⟨rfl, hb1⟩
      go_wp2_with fail
      refine (model9_of (s.extract i s.size) m lz hc _ (by rw [ByteArray.size_extract]; omega)).mono ?_
      rintro e w2 ⟨rfl, rfl⟩
      go_wp2
      go_ret
      refine ⟨?_, hb1⟩
      first | rfl | (simp; done) | (simp; omega)
    · clear R0 hq
      go_enter Try.func5, Try.ntmps5
      go_wp2_with (go_at_call 11; refine (zz11 _ _ _ _ _ (by omega)).mono ?_; rintro e w' ⟨rfl, rfl⟩)
      refine (repeat12_of s _ i rfl hi hs m lz hc _ _ _ _ _ R.out).mono ?_
      rintro e w1 ⟨rfl, hb1⟩
      go_wp2_with fail
      refine (model9_of (s.extract i s.size) m lz hc _ (by rw [ByteArray.size_extract]; omega)).mono ?_
      rintro e w2 ⟨rfl, rfl⟩
      go_wp2
      go_ret
      refine ⟨?_, hb1⟩
      first | rfl | (simp; done) | (simp; omega)
set_option maxHeartbeats 1000000 in
/-- Accepted: a count without a leading zero. -/
theorem accept_take (s : ByteArray) (i M : Nat) (hi : i < s.size) (hs : s.size ≤ 1048576) (hg : Good (s.extract i s.size) M false) (c1 : bt s i = 123) (a1 a2 : Int) (w : World) :
    Calls Try.prog 5 #[.string s, .int .i64 a1, .int .i64 a2, .int .i64 i] w fun e w' => e = .returned (.bool true) ∧ Below w.heap.size w w' := by
  have hd : decide (s.size ≤ 1048576) = true := decide_eq_true hs
  have hc : CountIs (s.extract i s.size) M false := .inl hg
  have c1' : ((s[i].toNat : Int) == 123) = true := by rw [← bt_eq, c1]; rfl
  have R0 : Hid (rep s i M false = (nxt s (i + M), ⟨#[]⟩)) := by unfold Hid rep; rw [if_pos c1, if_neg (by omega), if_neg (by simp)]; rfl
  obtain ⟨g1, g2, _⟩ := hg.shape
  rw [ByteArray.size_extract] at g2
  have g3 : i + M ≤ s.size := by omega
  have g4 : 3 ≤ M := by omega
  clear c1 g2
  by_cases hq : bt s (i + M) = 63
  · have hlt := bt_lt s (i + M) (by omega)
    have hq' : ((s[i + M].toNat : Int) == 63) = true := by rw [← bt_eq, hq]; rfl
    have R : Hid (rep s i M false = ((i : Int) + M + 1, ⟨#[]⟩)) := by unfold Hid; rw [R0.out]; unfold nxt; rw [if_pos hq]; rfl
    clear R0 hq
    go_enter Try.func5, Try.ntmps5
    go_wp2_with (go_at_call 11; refine (zz11 _ _ _ _ _ (by omega)).mono ?_; rintro e w' ⟨rfl, rfl⟩)
    refine (repeat12_of s _ i rfl hi hs M false hc _ _ _ _ _ R.out).mono ?_
    rintro e w1 ⟨rfl, hb1⟩
    go_wp2_with fail
    refine (model9_of (s.extract i s.size) M false hc _ (by rw [ByteArray.size_extract]; omega)).mono ?_
    rintro e w2 ⟨rfl, rfl⟩
    go_wp2
    go_ret
    refine ⟨?_, hb1⟩
    first | rfl | (simp; done) | (simp; omega)
  · have R : Hid (rep s i M false = ((i : Int) + M, ⟨#[]⟩)) := by unfold Hid; rw [R0.out]; unfold nxt; rw [if_neg hq]; rfl
    by_cases hlt : i + M < s.size
    · have hq' : ((s[i + M].toNat : Int) != 63) = true := by rw [← bt_eq]; simpa using hq
      clear R0 hq
      go_enter Try.func5, Try.ntmps5
      go_wp2_with (go_at_call 11; refine (zz11 _ _ _ _ _ (by omega)).mono ?_; rintro e w' ⟨rfl, rfl⟩)
      refine (repeat12_of s _ i rfl hi hs M false hc _ _ _ _ _ R.out).mono ?_
      rintro e w1 ⟨rfl, hb1⟩
      go_wp2_with fail
      refine (model9_of (s.extract i s.size) M false hc _ (by rw [ByteArray.size_extract]; omega)).mono ?_
      rintro e w2 ⟨rfl, rfl⟩
      go_wp2
      go_ret
      refine ⟨?_, hb1⟩
      first | rfl | (simp; done) | (simp; omega)
    · clear R0 hq
      go_enter Try.func5, Try.ntmps5
      go_wp2_with (go_at_call 11; refine (zz11 _ _ _ _ _ (by omega)).mono ?_; rintro e w' ⟨rfl, rfl⟩)
      refine (repeat12_of s _ i rfl hi hs M false hc _ _ _ _ _ R.out).mono ?_
      rintro e w1 ⟨rfl, hb1⟩
      go_wp2_with fail
      refine (model9_of (s.extract i s.size) M false hc _ (by rw [ByteArray.size_extract]; omega)).mono ?_
      rintro e w2 ⟨rfl, rfl⟩
      go_wp2
      go_ret
      refine ⟨?_, hb1⟩
      first | rfl | (simp; done) | (simp; omega)

theorem refuse_walk (s : ByteArray) (a1 a2 a3 : Int) (w0 : s.size ≤ maxLen) (w1 : (Lit.int .i64 a1).wf = true) (w2 : (Lit.int .i64 a2).wf = true) (w3 : (Lit.int .i64 a3).wf = true) (w : World) :
    Calls Try.prog 5 #[.string s, .int .i64 a1, .int .i64 a2, .int .i64 a3] w fun e w' => e = .returned (.bool true) ∧ Below w.heap.size w w' := by
  unfold maxLen at w0
  by_cases h : s.size ≤ 1048576
  case neg =>
    have hd : decide (s.size ≤ 1048576) = false := decide_eq_false h
    go_enter Try.func5, Try.ntmps5
    go_wp2_with (go_at_call 11; refine (zz11 _ _ _ _ _ w0).mono ?_; rintro e w' ⟨rfl, rfl⟩)
    go_ret
    exact ⟨rfl, Below.refl _ _⟩
  have hd : decide (s.size ≤ 1048576) = true := decide_eq_true h
  by_cases h1 : a3 < 0
  case pos =>
    go_enter Try.func5, Try.ntmps5
    go_wp2_with (go_at_call 11; refine (zz11 _ _ _ _ _ w0).mono ?_; rintro e w' ⟨rfl, rfl⟩)
    go_ret
    exact ⟨rfl, Below.refl _ _⟩
  obtain ⟨i, rfl⟩ := Int.eq_ofNat_of_zero_le (by omega : 0 ≤ a3)
  by_cases h2 : i < s.size
  case neg =>
    go_enter Try.func5, Try.ntmps5
    go_wp2_with (go_at_call 11; refine (zz11 _ _ _ _ _ w0).mono ?_; rintro e w' ⟨rfl, rfl⟩)
    go_ret
    exact ⟨rfl, Below.refl _ _⟩
  obtain ⟨m, lz, hc⟩ := count_exists (s.extract i s.size)
  by_cases c1 : bt s i = 123
  · rcases hc with hg | ⟨rfl, rfl, hn⟩
    · obtain ⟨g1, _, _⟩ := hg.shape
      obtain ⟨M, rfl⟩ := Int.eq_ofNat_of_zero_le (by omega : 0 ≤ m)
      cases lz with
      | true => exact refuse_lead s i M h2 h hg c1 a1 a2 w
      | false => exact accept_take s i M h2 h hg c1 a1 a2 w
    · exact refuse_none s i h2 h (.inr ⟨rfl, rfl, hn⟩) c1 a1 a2 w
  · exact accept_plain s i h2 h m lz hc c1 a1 a2 w
end Go.Proofs.Qxb6000079a
