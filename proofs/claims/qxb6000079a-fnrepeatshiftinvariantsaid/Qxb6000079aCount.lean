import Derived.Test.Qxb6000079aRows
import Derived.Test.Qxb6000079aPlain
import Derived.WalkKit
import Derived.Deep.QuietTactic
import Derived.BigQuiet
import Derived.WalkSmall
namespace Go.Proofs.Qxb6000079a
open Go.RowKit
set_option linter.unusedVariables false

theorem isDigit19 (c : Int) (w : World) : Calls Try.prog 19 #[.int .u8 c] w fun e w' => e = .returned (.bool (dig c)) ∧ w = w' := by
  by_cases h : 48 ≤ c
  · go_enter Try.func19, Try.ntmps19
    go_wp2
    go_ret
    exact ⟨by simp [dig, h], rfl⟩
  · have h' : decide (48 ≤ c) = false := by simpa using h
    go_enter Try.func19, Try.ntmps19
    go_wp2
    go_ret
    exact ⟨by simp [dig, h'], rfl⟩

/-- What the closure 'digits' leaves of the world: the text stands, the flag is raised where the number has a leading zero. -/
structure Flag (s : ByteArray) (at_ al : Addr) (b : Bool) (w : World) : Prop where
  txt : w.cell? at_ = some (.string s)
  flag : w.cell? al = some (.bool b)
  free : w.frozen? al = false

theorem flag_up {s : ByteArray} {x y k r : Nat} {b : Bool} {w : World} (hf : Flag s ⟨x, 0, none⟩ ⟨y, 0, none⟩ b w) (hxy : x ≠ y) (h1 : 1 < (r : Int) - k) (hk : k < s.size) (h2 : ((s[k].toNat : Int) == 48) = true) :
    Flag s ⟨x, 0, none⟩ ⟨y, 0, none⟩ (b || lead s k r) (w.setCell ⟨y, 0, none⟩ (.bool true)) ∧ Below y w (w.setCell ⟨y, 0, none⟩ (.bool true)) := by
  have hl : lead s k r = true := by unfold lead; rw [bt_eq s k hk, h2]; simp [h1]
  refine ⟨⟨?_, ?_, ?_⟩, (Below.refl y w).setCell (p := ⟨y, 0, none⟩) (Nat.le_refl _) _⟩
  · rw [World.cell?_of_block (heap_setCell_other w _ _ _ (by simpa using hxy))]; exact hf.txt
  · rw [hl, Bool.or_true]; exact World.cell?_setCell_same _ _ _ hf.flag
  · rw [World.frozen?_setCell]; exact hf.free
theorem flag_stay {s : ByteArray} {a c : Addr} {k r B : Nat} {b : Bool} {w : World} (hf : Flag s a c b w) (h : lead s k r = false) : Flag s a c (b || lead s k r) w ∧ Below B w w := by
  rw [h, Bool.or_false]; exact ⟨hf, Below.refl _ _⟩
theorem lead_short {s : ByteArray} {k r : Nat} (h : (r : Int) - k ≤ 1) : lead s k r = false := by
  unfold lead; rw [decide_eq_false (by omega)]; rfl
theorem lead_other {s : ByteArray} {k r : Nat} (hk : k < s.size) (h2 : ((s[k].toNat : Int) == 48) = false) : lead s k r = false := by
  unfold lead; rw [bt_eq s k hk, h2, Bool.and_false]

set_option maxHeartbeats 400000 in
theorem digits18 (s : ByteArray) (k r : Nat) (hr : Run s k r) (x y : Nat) (b : Bool) (w : World) (hf : Flag s ⟨x, 0, none⟩ ⟨y, 0, none⟩ b w) (hxy : x ≠ y) (hs : s.size ≤ 1048576) (hk : k ≤ 1048577) :
    Calls Try.prog 18 #[.int .i64 k, .pointer (some ⟨x, 0, none⟩), .pointer (some ⟨y, 0, none⟩)] w fun e w' => e = .returned (.int .i64 r) ∧ Flag s ⟨x, 0, none⟩ ⟨y, 0, none⟩ (b || lead s k r) w' ∧ Below y w w' := by
  have h1 := hf.txt
  have h2 := hf.flag
  have h3 := hf.free
  have hlo := hr.lo
  have hhi := hr.hi
  go_enter Try.func18, Try.ntmps18
  go_wp2
  go_loop [5] (fun i => ∃ j : Nat, i = .int .i64 j ∧ k ≤ j ∧ j ≤ r) (fun i => r - (intOf i).toNat)
  case atStart => exact ⟨k, rfl, by omega, by omega⟩
  case round =>
    obtain ⟨j, rfl, j1, j2⟩ := hrel
    by_cases hjr : j < r
    · have hlt : j < s.size := by omega
      have hd : dig ↑s[j].toNat = true := by rw [← bt_eq]; exact hr.run j j1 hjr
      go_wp2_with (go_at_call 19; refine (isDigit19 _ _).mono ?_; rintro e w' ⟨rfl, rfl⟩)
      go_round
      case rel => exact ⟨j + 1, by go_num, by omega, by omega⟩
      case measure => simp [intOf]; omega
    · obtain rfl : j = r := by omega
      by_cases hlt : j < s.size
      · have hd : dig ↑s[j].toNat = false := by rw [← bt_eq]; exact hr.stop
        go_wp2_with (go_at_call 19; refine (isDigit19 _ _).mono ?_; rintro e w' ⟨rfl, rfl⟩)
        · go_ret
          exact ⟨rfl, flag_up hf hxy ‹_› ‹_› ‹_›⟩
        · go_ret
          exact ⟨rfl, flag_stay hf (lead_other (by assumption) (by assumption))⟩
        · go_ret
          exact ⟨rfl, flag_stay hf (lead_short (by assumption))⟩
      · go_wp2
        · go_ret
          exact ⟨rfl, flag_up hf hxy ‹_› ‹_› ‹_›⟩
        · go_ret
          exact ⟨rfl, flag_stay hf (lead_other (by assumption) (by assumption))⟩
        · go_ret
          exact ⟨rfl, flag_stay hf (lead_short (by assumption))⟩


theorem digits18i (s : ByteArray) (ki : Int) (k r : Nat) (hki : ki = k) (hr : Run s k r) (x y : Nat) (b : Bool) (w : World) (hf : Flag s ⟨x, 0, none⟩ ⟨y, 0, none⟩ b w) (hxy : x ≠ y) (hs : s.size ≤ 1048576) (hk : k ≤ 1048577) :
    Calls Try.prog 18 #[.int .i64 ki, .pointer (some ⟨x, 0, none⟩), .pointer (some ⟨y, 0, none⟩)] w fun e w' => e = .returned (.int .i64 r) ∧ Flag s ⟨x, 0, none⟩ ⟨y, 0, none⟩ (b || lead s k r) w' ∧ Below y w w' := by
  subst hki
  exact digits18 s k r hr x y b w hf hxy hs hk

theorem flag_start (s : ByteArray) (w : World) : Flag s ⟨w.heap.size, 0, none⟩ ⟨w.heap.size + 1, 0, none⟩ false ((w.alloc (.cells #[.string s] 9)).alloc (.cells #[.bool false] 4)) := by
  refine ⟨?_, ?_, ?_⟩
  · simp
  · simp
  · simp

theorem below2 {w w1 : World} {o p : Obj} (h : Below (w.heap.size + 1) ((w.alloc o).alloc p) w1) : Below w.heap.size w w1 :=
  (((Below.refl _ _).alloc (Nat.le_refl _) _).alloc (by simp) _).trans (h.mono (by omega))

set_option maxHeartbeats 400000 in
theorem count15 (s : ByteArray) (w : World) (hs : s.size ≤ 1048576) :
    Calls Try.prog 15 #[.string s] w fun e w' => ∃ n lz, e = .returned (.tuple #[.int .i64 n, .bool lz]) ∧ CountIs s n lz ∧ Below w.heap.size w w' := by
  obtain ⟨r, hr⟩ := run_exists s 1
  have hlo := hr.lo
  have hhi := hr.hi
  by_cases c1 : r = 1
  · subst c1
    go_enter Try.func15, Try.ntmps15
    go_wp2_with fail
    refine (digits18i s _ 1 1 rfl hr _ _ false _ (flag_start s w) (by omega) hs (by omega)).mono ?_
    rintro e w1 ⟨rfl, hf, hb⟩
    go_wp2
    go_ret2
    exact ⟨_, _, rfl, rc_none1 hr, below2 hb⟩
  · have c1' : ((r : Int) == 1) = false := beq_eq_false_iff_ne.2 (by omega)
    by_cases c2 : bt s r = 44
    · have hrs := bt_lt s r (by omega)
      have c2' : ((s[r].toNat : Int) == 44) = true := by rw [← bt_eq, c2]; rfl
      obtain ⟨t, ht⟩ := run_exists s (r + 1)
      have tlo := ht.lo
      have thi := ht.hi
      have C1 : Hid (¬ r = 1) := c1
      have C2 : Hid (bt s r = 44) := c2
      clear c1 c2
      go_enter Try.func15, Try.ntmps15
      go_wp2_with fail
      refine (digits18i s _ 1 r rfl hr _ _ false _ (flag_start s w) (by omega) hs (by omega)).mono ?_
      rintro e w1 ⟨rfl, hf, hb⟩
      have f1 := hf.txt
      have f2 := hf.flag
      go_wp2_with fail
      refine (digits18i s _ (r + 1) t (by omega) ht _ _ _ _ hf (by omega) hs (by omega)).mono ?_
      rintro e w2 ⟨rfl, hf2, hb2⟩
      clear f1 f2
      have f1 := hf2.txt
      have f2 := hf2.flag
      by_cases c3 : bt s t = 125
      · have hts := bt_lt s t (by omega)
        have c3' : ((s[t].toNat : Int) != 125) = false := by rw [← bt_eq, c3]; rfl
        have c4 : ((t : Int) == (s.size : Int)) = false := beq_eq_false_iff_ne.2 (by omega)
        have HC : Hid (CountIs s (t + 1) (lead s 1 r || lead s (r + 1) t)) := rc_comma hr C1.out C2.out ht c3
        clear c3
        go_wp2
        go_quiet (fail)
        go_wp2
        go_ret2
        exact ⟨_, _, rfl, HC.out, below_drewN (below2 (hb.trans hb2)) _⟩
      · have HC : Hid (CountIs s (-1) false) := rc_comma_bad hr C2.out ht c3
        by_cases hts : t < s.size
        · have c3' : ((s[t].toNat : Int) != 125) = true := by rw [← bt_eq]; simpa using c3
          have c4 : ((t : Int) == (s.size : Int)) = false := beq_eq_false_iff_ne.2 (by omega)
          clear c3
          go_wp2
          go_ret2
          exact ⟨_, _, rfl, HC.out, below2 (hb.trans hb2)⟩
        · have c4 : ((t : Int) == (s.size : Int)) = true := beq_iff_eq.2 (by omega)
          clear c3
          go_wp2
          go_ret2
          exact ⟨_, _, rfl, HC.out, below2 (hb.trans hb2)⟩
    · have C1 : Hid (¬ r = 1) := c1
      have C2 : Hid (bt s r ≠ 44) := c2
      clear c1 c2
      have c2' : ∀ h : r < s.size, ((s[r].toNat : Int) == 44) = false := fun h => by rw [← bt_eq]; simpa using C2.out
      have c0' : ¬ r < s.size → ((r : Int) == (s.size : Int)) = true := fun h => beq_iff_eq.2 (by have := C1.out; omega)
      go_enter Try.func15, Try.ntmps15
      go_wp2_with fail
      refine (digits18i s _ 1 r rfl hr _ _ false _ (flag_start s w) (by omega) hs (by omega)).mono ?_
      rintro e w1 ⟨rfl, hf, hb⟩
      have f1 := hf.txt
      have f2 := hf.flag
      by_cases hrs : r < s.size
      · have c2 := c2' hrs
        have c4 : ((r : Int) == (s.size : Int)) = false := beq_eq_false_iff_ne.2 (by omega)
        clear c2' c0'
        by_cases c3 : bt s r = 125
        · have c3' : ((s[r].toNat : Int) != 125) = false := by rw [← bt_eq, c3]; rfl
          have HC : Hid (CountIs s (r + 1) (lead s 1 r)) := rc_plain hr C1.out c3
          clear c3
          go_wp2
          go_quiet (fail)
          go_wp2
          go_ret2
          exact ⟨_, _, rfl, HC.out, below_drewN (below2 hb) _⟩
        · have c3' : ((s[r].toNat : Int) != 125) = true := by rw [← bt_eq]; simpa using c3
          have HC : Hid (CountIs s (-1) false) := rc_bad hr C2.out c3
          clear c3
          go_wp2
          go_ret2
          exact ⟨_, _, rfl, HC.out, below2 hb⟩
      · have c4 := c0' hrs
        have HC : Hid (CountIs s (-1) false) := rc_bad hr C2.out (by rw [bt_past s r (by omega)]; omega)
        clear c2' c0'
        go_wp2
        go_ret2
        exact ⟨_, _, rfl, HC.out, below2 hb⟩

theorem count8 (s : ByteArray) (w : World) (hs : s.size ≤ 1048576) :
    Calls Try.prog 8 #[.string s] w fun e w' => ∃ n lz, e = .returned (.tuple #[.int .i64 n, .bool lz]) ∧ CountIs s n lz ∧ Below w.heap.size w w' := by
  go_enter Try.func8, Try.ntmps8
  go_wp2_with (go_at_call 15; refine (count15 s _ hs).mono ?_; rintro e w' ⟨n, lz, rfl, hc, hb⟩)
  go_ret2
  exact ⟨_, _, rfl, by assumption, by assumption⟩
end Go.Proofs.Qxb6000079a
