import Derived.Test.Qxb6000079aReads
namespace Go.Proofs.Qxb6000079a
open Go.RowKit
set_option linter.unusedVariables false

/-! ### What repeat answers -/
theorem count_exists (s : ByteArray) : ∃ n lz, CountIs s n lz := by
  by_cases h : ∃ n lz, Good s n lz
  · obtain ⟨n, lz, h⟩ := h
    exact ⟨n, lz, .inl h⟩
  · exact ⟨-1, false, .inr ⟨rfl, rfl, fun m l g => h ⟨m, l, g⟩⟩⟩
/-- The index behind a lazy mark at k, if there is one. -/
def nxt (s : ByteArray) (k : Nat) : Int := if bt s k = 63 then (k : Int) + 1 else k
def rep (s : ByteArray) (i : Nat) (m : Int) (lz : Bool) : Int × ByteArray :=
  if bt s i = 123 then
    if m < 0 then (0, ⟨#[123]⟩)
    else if lz = true then (0, s.extract i (i + m.toNat))
    else (nxt s (i + m.toNat), ⟨#[]⟩)
  else (nxt s (i + 1), ⟨#[]⟩)

theorem count15_of (s : ByteArray) (n : Int) (lz : Bool) (hc : CountIs s n lz) (w : World) (hs : s.size ≤ 1048576) :
    Calls Try.prog 15 #[.string s] w fun e w' => e = .returned (.tuple #[.int .i64 n, .bool lz]) ∧ Below w.heap.size w w' :=
  (count15 s w hs).mono fun _ _ ⟨m, l, h1, h2, h3⟩ => by
    obtain ⟨rfl, rfl⟩ := count_unique hc h2
    exact ⟨h1, h3⟩

theorem nxt_yes {s : ByteArray} {k : Nat} (h : k < s.size) (h2 : ((s[k].toNat : Int) == 63) = true) : nxt s k = (k : Int) + 1 := by
  unfold nxt; rw [bt_eq s k h, if_pos (by simpa using h2)]
theorem nxt_no {s : ByteArray} {k : Nat} (h : k < s.size) (h2 : ((s[k].toNat : Int) == 63) = false) : nxt s k = (k : Int) := by
  unfold nxt; rw [bt_eq s k h, if_neg (by simpa using h2)]
theorem nxt_past {s : ByteArray} {k : Nat} (h : s.size ≤ k) : nxt s k = (k : Int) := by
  unfold nxt; rw [bt_past s k h, if_neg (by omega)]
theorem ret_rep {a b : Int} {x : ByteArray} {r : Int × ByteArray} (hr : r = (b, x)) (h : b = a) : Ending.returned (.tuple #[.int .i64 a, .string x]) = .returned (.tuple #[.int .i64 r.1, .string r.2]) := by rw [hr, h]

set_option maxHeartbeats 400000 in
theorem repeat17_plain (s : ByteArray) (i : Nat) (hi : i < s.size) (hs : s.size ≤ 1048576) (m : Int) (lz : Bool) (c1 : bt s i ≠ 123) (b : Nat) (w : World) (hb : w.cell? ⟨b, 0, none⟩ = some (.string s)) :
    Calls Try.prog 17 #[.pointer (some ⟨b, 0, none⟩), .int .i64 i] w fun e w' => e = .returned (.tuple #[.int .i64 (rep s i m lz).1, .string (rep s i m lz).2]) ∧ Below w.heap.size w w' := by
  have c1' : ((s[i].toNat : Int) == 123) = false := by rw [← bt_eq]; simpa using c1
  have hrep : Hid (rep s i m lz = (nxt s (i + 1), ⟨#[]⟩)) := by unfold Hid rep; rw [if_neg c1]
  clear c1
  go_enter Try.func17, Try.ntmps17
  go_wp2
  · go_ret2
    exact ⟨ret_rep hrep.out (by rw [nxt_yes (by omega) (by assumption)]; omega), Below.refl _ _⟩
  · go_ret2
    exact ⟨ret_rep hrep.out (by rw [nxt_no (by omega) (by assumption)]; omega), Below.refl _ _⟩
  · go_ret2
    exact ⟨ret_rep hrep.out (by rw [nxt_past (by omega)]; omega), Below.refl _ _⟩

set_option maxHeartbeats 400000 in
theorem repeat17_none (s : ByteArray) (i : Nat) (hi : i < s.size) (hs : s.size ≤ 1048576) (c1 : bt s i = 123) (hc : CountIs (s.extract i s.size) (-1) false) (b : Nat) (w : World) (hb : w.cell? ⟨b, 0, none⟩ = some (.string s)) :
    Calls Try.prog 17 #[.pointer (some ⟨b, 0, none⟩), .int .i64 i] w fun e w' => e = .returned (.tuple #[.int .i64 (rep s i (-1) false).1, .string (rep s i (-1) false).2]) ∧ Below w.heap.size w w' := by
  have c1' : ((s[i].toNat : Int) == 123) = true := by rw [← bt_eq, c1]; rfl
  have hrep : Hid (rep s i (-1) false = (0, ⟨#[123]⟩)) := by unfold Hid rep; rw [if_pos c1, if_pos (by omega)]
  clear c1
  go_enter Try.func17, Try.ntmps17
  go_wp2_with fail
  refine (count15_of _ _ _ hc _ (by rw [ByteArray.size_extract]; omega)).mono ?_
  rintro e w1 ⟨rfl, hbel⟩
  go_wp2
  go_ret2
  exact ⟨ret_rep hrep.out rfl, hbel⟩

set_option maxHeartbeats 400000 in
theorem repeat17_lead (s : ByteArray) (i M : Nat) (hi : i < s.size) (hs : s.size ≤ 1048576) (c1 : bt s i = 123) (hg : Good (s.extract i s.size) M true) (b : Nat) (w : World) (hb : w.cell? ⟨b, 0, none⟩ = some (.string s)) :
    Calls Try.prog 17 #[.pointer (some ⟨b, 0, none⟩), .int .i64 i] w fun e w' => e = .returned (.tuple #[.int .i64 (rep s i M true).1, .string (rep s i M true).2]) ∧ Below w.heap.size w w' := by
  have c1' : ((s[i].toNat : Int) == 123) = true := by rw [← bt_eq, c1]; rfl
  have hrep : Hid (rep s i M true = (0, s.extract i (i + M))) := by unfold Hid rep; rw [if_pos c1, if_neg (by omega), if_pos rfl]; rfl
  obtain ⟨g1, g2, _⟩ := hg.shape
  rw [ByteArray.size_extract] at g2
  have g3 : i + M ≤ s.size := by omega
  clear c1 g2
  go_enter Try.func17, Try.ntmps17
  go_wp2_with fail
  refine (count15_of _ _ _ (.inl hg) _ (by rw [ByteArray.size_extract]; omega)).mono ?_
  rintro e w1 ⟨rfl, hbel⟩
  go_wp2
  have hwr : IntKind.i64.wrap ((i : Int) + M) = (i : Int) + M := IntWalk.i64_in _ (by omega)
  have b0 : (0 : Int) ≤ (i : Int) := by omega
  have b1 : (i : Int) ≤ (i : Int) + M := by omega
  have b2 : (i : Int) + M ≤ (s.size : Int) := by omega
  go_quiet (fail)
  go_wp2
  go_ret2
  exact ⟨ret_rep hrep.out rfl, below_drewN hbel _⟩

set_option maxHeartbeats 400000 in
theorem repeat17_take (s : ByteArray) (i M : Nat) (hi : i < s.size) (hs : s.size ≤ 1048576) (c1 : bt s i = 123) (hg : Good (s.extract i s.size) M false) (b : Nat) (w : World) (hb : w.cell? ⟨b, 0, none⟩ = some (.string s)) :
    Calls Try.prog 17 #[.pointer (some ⟨b, 0, none⟩), .int .i64 i] w fun e w' => e = .returned (.tuple #[.int .i64 (rep s i M false).1, .string (rep s i M false).2]) ∧ Below w.heap.size w w' := by
  have c1' : ((s[i].toNat : Int) == 123) = true := by rw [← bt_eq, c1]; rfl
  have hrep : Hid (rep s i M false = (nxt s (i + M), ⟨#[]⟩)) := by unfold Hid rep; rw [if_pos c1, if_neg (by omega), if_neg (by simp)]; rfl
  obtain ⟨g1, g2, _⟩ := hg.shape
  rw [ByteArray.size_extract] at g2
  have g3 : i + M ≤ s.size := by omega
  clear c1 g2
  go_enter Try.func17, Try.ntmps17
  go_wp2_with fail
  refine (count15_of _ _ _ (.inl hg) _ (by rw [ByteArray.size_extract]; omega)).mono ?_
  rintro e w1 ⟨rfl, hbel⟩
  go_wp2
  · go_ret2
    exact ⟨ret_rep hrep.out (by rw [nxt_yes (by omega) (by assumption)]; omega), hbel⟩
  · go_ret2
    exact ⟨ret_rep hrep.out (by rw [nxt_no (by omega) (by assumption)]; omega), hbel⟩
  · go_ret2
    exact ⟨ret_rep hrep.out (by rw [nxt_past (by omega)]; omega), hbel⟩

theorem repeat17 (s : ByteArray) (i : Nat) (hi : i < s.size) (hs : s.size ≤ 1048576) (m : Int) (lz : Bool) (hc : CountIs (s.extract i s.size) m lz) (b : Nat) (w : World) (hb : w.cell? ⟨b, 0, none⟩ = some (.string s)) :
    Calls Try.prog 17 #[.pointer (some ⟨b, 0, none⟩), .int .i64 i] w fun e w' => e = .returned (.tuple #[.int .i64 (rep s i m lz).1, .string (rep s i m lz).2]) ∧ Below w.heap.size w w' := by
  by_cases c1 : bt s i = 123
  · rcases hc with hg | hn
    · obtain ⟨g1, _, _⟩ := hg.shape
      obtain ⟨M, rfl⟩ := Int.eq_ofNat_of_zero_le (by omega : 0 ≤ m)
      cases lz with
      | true => exact repeat17_lead s i M hi hs c1 hg b w hb
      | false => exact repeat17_take s i M hi hs c1 hg b w hb
    · obtain ⟨rfl, rfl, h⟩ := hn
      exact repeat17_none s i hi hs c1 (.inr ⟨rfl, rfl, h⟩) b w hb
  · exact repeat17_plain s i hi hs m lz c1 b w hb

set_option maxHeartbeats 400000 in
theorem repeat12 (s : ByteArray) (i : Nat) (hi : i < s.size) (hs : s.size ≤ 1048576) (m : Int) (lz : Bool) (hc : CountIs (s.extract i s.size) m lz) (p c : Int) (w : World) :
    Calls Try.prog 12 #[.string s, .int .i64 p, .int .i64 c, .int .i64 i] w fun e w' => e = .returned (.tuple #[.int .i64 (rep s i m lz).1, .string (rep s i m lz).2]) ∧ Below w.heap.size w w' := by
  go_enter Try.func12, Try.ntmps12
  go_wp2_with fail
  refine (repeat17 s i hi hs m lz hc _ _ (by simp)).mono ?_
  rintro e w1 ⟨rfl, hbel⟩
  go_wp2
  go_ret2
  exact ⟨rfl, ((Below.refl _ _).alloc (Nat.le_refl _) _).trans (hbel.mono (by simp))⟩
end Go.Proofs.Qxb6000079a
