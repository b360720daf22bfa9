/-
  The plain side of seat b6000079a: what a repeat count is, read byte by byte; no Go in sight.
-/
import Derived.WalkKit
namespace Go.Proofs.Qxb6000079a

/-- Byte k of s; 0 past its end. -/
def bt (s : ByteArray) (k : Nat) : Int := if h : k < s.size then (s[k].toNat : Int) else 0
theorem bt_eq (s : ByteArray) (k : Nat) (h : k < s.size) : bt s k = (s[k].toNat : Int) := by simp [bt, h]
theorem bt_past (s : ByteArray) (k : Nat) (h : s.size ≤ k) : bt s k = 0 := by unfold bt; rw [dif_neg (by omega)]
theorem bt_lt (s : ByteArray) (k : Nat) (h : bt s k ≠ 0) : k < s.size := by
  by_cases hk : k < s.size
  · exact hk
  · exact absurd (bt_past s k (by omega)) h

def dig (c : Int) : Bool := decide (48 ≤ c) && decide (c ≤ 57)
theorem dig_iff (c : Int) : dig c = true ↔ 48 ≤ c ∧ c ≤ 57 := by simp [dig]
theorem dig_no (c : Int) : dig c = false ↔ ¬ (48 ≤ c ∧ c ≤ 57) := by rw [← dig_iff]; simp

/-- The digits from k on end at r. -/
structure Run (s : ByteArray) (k r : Nat) : Prop where
  lo : k ≤ r
  hi : r ≤ s.size ∨ r = k
  run : ∀ i, k ≤ i → i < r → dig (bt s i) = true
  stop : dig (bt s r) = false

theorem run_exists (s : ByteArray) (k : Nat) : ∃ r, Run s k r := by
  generalize hn : s.size - k = n
  induction n generalizing k with
  | zero => exact ⟨k, ⟨by omega, .inr rfl, fun i _ _ => by omega, by rw [bt_past s k (by omega)]; rfl⟩⟩
  | succ n ih =>
    by_cases hd : dig (bt s k) = true
    · obtain ⟨r, h⟩ := ih (k + 1) (by omega)
      refine ⟨r, ⟨by have := h.lo; omega, ?_, fun i h1 h2 => ?_, h.stop⟩⟩
      · rcases h.hi with h | h
        · exact .inl h
        · exact .inl (by omega)
      · by_cases hi : i = k
        · rw [hi]; exact hd
        · exact h.run i (by omega) h2
    · exact ⟨k, ⟨by omega, .inr rfl, fun i _ _ => by omega, by simpa using hd⟩⟩

/-- 'the number from k up to r is written with a leading zero' -/
def lead (s : ByteArray) (k r : Nat) : Bool := decide (1 < (r : Int) - k) && bt s k == 48

/-- t opens with a count of n bytes (its first byte is not looked at), written with a leading zero or not. -/
def Good (s : ByteArray) (n : Int) (lz : Bool) : Prop :=
  ∃ e : Nat, 1 < e ∧ (∀ i, 1 ≤ i → i < e → dig (bt s i) = true) ∧
    ((bt s e = 125 ∧ n = e + 1 ∧ lz = lead s 1 e) ∨
     (bt s e = 44 ∧ ∃ f : Nat, e + 1 ≤ f ∧ (∀ i, e + 1 ≤ i → i < f → dig (bt s i) = true) ∧ bt s f = 125 ∧ n = f + 1 ∧ lz = (lead s 1 e || lead s (e + 1) f)))

/-- The whole answer. -/
def CountIs (s : ByteArray) (n : Int) (lz : Bool) : Prop := Good s n lz ∨ (n = -1 ∧ lz = false ∧ ∀ m l, ¬ Good s m l)

theorem ends_agree (s : ByteArray) (k e f : Nat) (he : ∀ i, k ≤ i → i < e → dig (bt s i) = true) (hf : ∀ i, k ≤ i → i < f → dig (bt s i) = true) (ne : dig (bt s e) = false) (nf : dig (bt s f) = false) (h1 : k ≤ e) (h2 : k ≤ f) : e = f := by
  rcases Nat.lt_trichotomy e f with h | h | h
  · have := hf e h1 h; rw [ne] at this; simp at this
  · exact h
  · have := he f h2 h; rw [nf] at this; simp at this

theorem good_unique {s : ByteArray} {n m : Int} {a b : Bool} (h : Good s n a) (g : Good s m b) : n = m ∧ a = b := by
  obtain ⟨e, e1, ed, h⟩ := h
  obtain ⟨f, f1, fd, g⟩ := g
  have ne : dig (bt s e) = false := by rw [dig_no]; rcases h with h | h <;> omega
  have nf : dig (bt s f) = false := by rw [dig_no]; rcases g with h | h <;> omega
  obtain rfl := ends_agree s 1 e f ed fd ne nf (by omega) (by omega)
  rcases h with ⟨h1, h2, h3⟩ | ⟨h1, x, h2, h3, h4, h5, h6⟩
  · rcases g with ⟨g1, g2, g3⟩ | ⟨g1, _⟩
    · exact ⟨by omega, by rw [h3, g3]⟩
    · omega
  · rcases g with ⟨g1, g2, g3⟩ | ⟨g1, y, g2, g3, g4, g5, g6⟩
    · omega
    · obtain rfl := ends_agree s (e + 1) x y h3 g3 (by rw [dig_no]; omega) (by rw [dig_no]; omega) h2 g2
      exact ⟨by omega, by rw [h6, g6]⟩

theorem count_unique {s : ByteArray} {n m : Int} {a b : Bool} (h : CountIs s n a) (g : CountIs s m b) : n = m ∧ a = b := by
  rcases h with h | ⟨h1, h2, h3⟩
  · rcases g with g | ⟨_, _, g3⟩
    · exact good_unique h g
    · exact absurd h (g3 _ _)
  · rcases g with g | ⟨g1, g2, _⟩
    · exact absurd g (h3 _ _)
    · exact ⟨by omega, by rw [h2, g2]⟩

/-- What a count that is there looks like. -/
theorem Good.shape {s : ByteArray} {n : Int} {a : Bool} (h : Good s n a) : 3 ≤ n ∧ n ≤ s.size ∧ bt s (n - 1).toNat = 125 := by
  obtain ⟨e, e1, ed, h⟩ := h
  rcases h with ⟨h1, h2, h3⟩ | ⟨h1, x, h2, h3, h4, h5, h6⟩
  · have := bt_lt s e (by omega)
    exact ⟨by omega, by omega, by rw [show (n - 1).toNat = e from by omega]; exact h1⟩
  · have := bt_lt s x (by omega)
    exact ⟨by omega, by omega, by rw [show (n - 1).toNat = x from by omega]; exact h4⟩

/-- repeatCount's ways. -/
theorem rc_none1 {s : ByteArray} (h : Run s 1 1) : CountIs s (-1) false := by
  refine .inr ⟨rfl, rfl, ?_⟩
  rintro m l ⟨e, e1, ed, _⟩
  have h1 := h.stop
  rw [ed 1 (by omega) (by omega)] at h1
  simp at h1
theorem Run.pin {s : ByteArray} {k r e : Nat} (h : Run s k r) (he : k ≤ e) (hd : ∀ i, k ≤ i → i < e → dig (bt s i) = true) (ne : dig (bt s e) = false) : r = e :=
  ends_agree s k r e h.run hd h.stop ne h.lo he
theorem rc_plain {s : ByteArray} {r : Nat} (h : Run s 1 r) (h1 : r ≠ 1) (h2 : bt s r = 125) : CountIs s (r + 1) (lead s 1 r) :=
  .inl ⟨r, by have := h.lo; omega, h.run, .inl ⟨h2, rfl, rfl⟩⟩
theorem rc_bad {s : ByteArray} {r : Nat} (h : Run s 1 r) (h2 : bt s r ≠ 44) (h3 : bt s r ≠ 125) : CountIs s (-1) false := by
  refine .inr ⟨rfl, rfl, ?_⟩
  rintro m l ⟨e, e1, ed, g⟩
  have ne : dig (bt s e) = false := by rw [dig_no]; rcases g with h | h <;> omega
  obtain rfl := h.pin (by omega) ed ne
  rcases g with g | g
  · omega
  · omega
theorem rc_comma {s : ByteArray} {r t : Nat} (h : Run s 1 r) (h1 : r ≠ 1) (h2 : bt s r = 44) (g : Run s (r + 1) t) (h3 : bt s t = 125) : CountIs s (t + 1) (lead s 1 r || lead s (r + 1) t) :=
  .inl ⟨r, by have := h.lo; omega, h.run, .inr ⟨h2, t, g.lo, g.run, h3, rfl, rfl⟩⟩
theorem rc_comma_bad {s : ByteArray} {r t : Nat} (h : Run s 1 r) (h2 : bt s r = 44) (g : Run s (r + 1) t) (h3 : bt s t ≠ 125) : CountIs s (-1) false := by
  refine .inr ⟨rfl, rfl, ?_⟩
  rintro m l ⟨e, e1, ed, gg⟩
  have ne : dig (bt s e) = false := by rw [dig_no]; rcases gg with h | h <;> omega
  obtain rfl := h.pin (by omega) ed ne
  rcases gg with gg | ⟨_, f, f1, fd, f2, _⟩
  · omega
  · obtain rfl := g.pin f1 fd (by rw [dig_no]; omega)
    omega
end Go.Proofs.Qxb6000079a
