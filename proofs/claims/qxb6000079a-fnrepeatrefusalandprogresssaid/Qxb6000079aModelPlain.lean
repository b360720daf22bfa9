/-
  The plain side of modelCount: what its one loop knows, and that its answer is the count.
-/
import Derived.Test.Qxb6000079aPlain
namespace Go.Proofs.Qxb6000079a

/-- digits from a up to b -/
def Digs (s : ByteArray) (a b : Nat) : Prop := ∀ i, a ≤ i → i < b → dig (bt s i) = true
theorem Digs.snoc {s : ByteArray} {a b : Nat} (h : Digs s a b) (hb : dig (bt s b) = true) : Digs s a (b + 1) := by
  intro i h1 h2
  by_cases hi : i = b
  · rw [hi]; exact hb
  · exact h i h1 (by omega)
theorem Digs.empty {s : ByteArray} {a b : Nat} (h : b ≤ a) : Digs s a b := fun i h1 h2 => by omega

/-- What the loop of modelCount knows at index k: c commas so far, the first at fc (-1: none). -/
def LoopInv (s : ByteArray) (k c : Nat) (fc : Int) : Prop :=
  1 ≤ k ∧ c ≤ k ∧
  ((c = 0 ∧ fc = -1 ∧ Digs s 1 k) ∨
   (∃ f : Nat, fc = f ∧ 1 ≤ f ∧ f < k ∧ bt s f = 44 ∧ Digs s 1 f ∧ ((c = 1 ∧ Digs s (f + 1) k) ∨ (2 ≤ c ∧ ∃ g, f + 1 ≤ g ∧ g < k ∧ bt s g = 44 ∧ Digs s (f + 1) g))))

theorem inv_start (s : ByteArray) : LoopInv s 1 0 (-1) := ⟨by omega, by omega, .inl ⟨rfl, rfl, .empty (by omega)⟩⟩

theorem inv_digit {s : ByteArray} {k c : Nat} {fc : Int} (h : LoopInv s k c fc) (hd : dig (bt s k) = true) : LoopInv s (k + 1) c fc := by
  obtain ⟨h1, h2, h⟩ := h
  refine ⟨by omega, by omega, ?_⟩
  rcases h with ⟨a, b, d⟩ | ⟨f, a, b, d, e, g, h⟩
  · exact .inl ⟨a, b, d.snoc hd⟩
  · refine .inr ⟨f, a, b, by omega, e, g, ?_⟩
    rcases h with ⟨p, q⟩ | ⟨p, x, y, z, u, v⟩
    · exact .inl ⟨p, q.snoc hd⟩
    · exact .inr ⟨p, x, y, by omega, u, v⟩

theorem inv_first {s : ByteArray} {k c : Nat} {fc : Int} (h : LoopInv s k c fc) (hc : bt s k = 44) (hf : fc < 0) : LoopInv s (k + 1) (c + 1) k := by
  obtain ⟨h1, h2, h⟩ := h
  refine ⟨by omega, by omega, ?_⟩
  rcases h with ⟨a, b, d⟩ | ⟨f, a, _⟩
  · exact .inr ⟨k, rfl, h1, by omega, hc, d, .inl ⟨by omega, .empty (by omega)⟩⟩
  · omega

theorem inv_more {s : ByteArray} {k c : Nat} {fc : Int} (h : LoopInv s k c fc) (hc : bt s k = 44) (hf : ¬ fc < 0) : LoopInv s (k + 1) (c + 1) fc := by
  obtain ⟨h1, h2, h⟩ := h
  refine ⟨by omega, by omega, ?_⟩
  rcases h with ⟨a, b, d⟩ | ⟨f, a, b, d, e, g, h⟩
  · omega
  · refine .inr ⟨f, a, b, by omega, e, g, .inr ⟨by rcases h with h | h <;> omega, ?_⟩⟩
    rcases h with ⟨p, q⟩ | ⟨p, x, y, z, u, v⟩
    · exact ⟨k, by omega, by omega, hc, q⟩
    · exact ⟨x, y, by omega, u, v⟩


/-- No brace at k: no count. -/
theorem model_bad {s : ByteArray} {k c : Nat} {fc : Int} (h : LoopInv s k c fc) (nd : dig (bt s k) = false) (nc : bt s k ≠ 44) (hb : bt s k ≠ 125) : CountIs s (-1) false := by
  refine .inr ⟨rfl, rfl, ?_⟩
  rintro m l ⟨e, e1, ed, gg⟩
  obtain ⟨h1, h2, h⟩ := h
  have ne : dig (bt s e) = false := by rw [dig_no]; rcases gg with h | h <;> omega
  rcases h with ⟨a, b, d⟩ | ⟨f, a, b, d, x, y, h⟩
  · obtain rfl := ends_agree s 1 k e d ed nd ne h1 (by omega)
    rcases gg with h | h <;> omega
  · obtain rfl := ends_agree s 1 f e y ed (by rw [dig_no]; omega) ne b (by omega)
    rcases gg with h' | ⟨_, v, v1, v2, v3, _⟩
    · omega
    · have nv : dig (bt s v) = false := by rw [dig_no]; omega
      rcases h with ⟨p, q⟩ | ⟨p, g, g1, g2, g3, g4⟩
      · obtain rfl := ends_agree s (f + 1) k v q v2 nd nv (by omega) v1
        omega
      · obtain rfl := ends_agree s (f + 1) g v g4 v2 (by rw [dig_no]; omega) nv g1 v1
        omega

/-- Two commas: no count. -/
theorem model_two {s : ByteArray} {k c : Nat} {fc : Int} (h : LoopInv s k c fc) (hc : 1 < c) : CountIs s (-1) false := by
  refine .inr ⟨rfl, rfl, ?_⟩
  rintro m l ⟨e, e1, ed, gg⟩
  obtain ⟨h1, h2, h⟩ := h
  have ne : dig (bt s e) = false := by rw [dig_no]; rcases gg with h | h <;> omega
  rcases h with ⟨a, b, d⟩ | ⟨f, a, b, d, x, y, h⟩
  · omega
  · obtain rfl := ends_agree s 1 f e y ed (by rw [dig_no]; omega) ne b (by omega)
    rcases gg with h' | ⟨_, v, v1, v2, v3, _⟩
    · omega
    · rcases h with ⟨p, q⟩ | ⟨p, g, g1, g2, g3, g4⟩
      · omega
      · obtain rfl := ends_agree s (f + 1) g v g4 v2 (by rw [dig_no]; omega) (by rw [dig_no]; omega) g1 v1
        omega

/-- No digit ahead: no count. -/
theorem model_empty {s : ByteArray} (h : dig (bt s 1) = false) : CountIs s (-1) false := by
  refine .inr ⟨rfl, rfl, ?_⟩
  rintro m l ⟨e, e1, ed, gg⟩
  have := ed 1 (by omega) e1
  rw [h] at this
  simp at this

/-- No comma: a plain count. -/
theorem model_plain {s : ByteArray} {k c : Nat} {fc : Int} (h : LoopInv s k c fc) (hf : fc < 0) (hk : k ≠ 1) (hb : bt s k = 125) : CountIs s (k + 1) (lead s 1 k) := by
  obtain ⟨h1, h2, h⟩ := h
  rcases h with ⟨a, b, d⟩ | ⟨f, a, b, _⟩
  · exact .inl ⟨k, by omega, d, .inl ⟨hb, rfl, rfl⟩⟩
  · omega

/-- One comma, at f. -/
theorem model_comma {s : ByteArray} {k c f : Nat} (h : LoopInv s k c f) (hc : ¬ 1 < c) (hf : f ≠ 1) (hb : bt s k = 125) : CountIs s (k + 1) (lead s 1 f || lead s (f + 1) k) := by
  obtain ⟨h1, h2, h⟩ := h
  rcases h with ⟨a, b, d⟩ | ⟨f', a, b, d, x, y, h⟩
  · omega
  · obtain rfl : f' = f := by omega
    rcases h with ⟨p, q⟩ | ⟨p, _⟩
    · exact .inl ⟨f', by omega, y, .inr ⟨x, k, by omega, q, hb, rfl, rfl⟩⟩
    · omega

theorem LoopInv.comma {s : ByteArray} {k c : Nat} {fc : Int} (h : LoopInv s k c fc) (hf : ¬ fc < 0) : ∃ f : Nat, fc = f ∧ 1 ≤ f ∧ f < k ∧ bt s f = 44 := by
  obtain ⟨h1, h2, h⟩ := h
  rcases h with ⟨a, b, d⟩ | ⟨f, a, b, d, x, y, h⟩
  · omega
  · exact ⟨f, a, b, d, x⟩
theorem LoopInv.low {s : ByteArray} {k c : Nat} {fc : Int} (h : LoopInv s k c fc) : 1 ≤ k ∧ c ≤ k ∧ -1 ≤ fc ∧ fc < k := by
  obtain ⟨h1, h2, h⟩ := h
  rcases h with ⟨a, b, d⟩ | ⟨f, a, b, d, x, y, h⟩
  · omega
  · omega
end Go.Proofs.Qxb6000079a
