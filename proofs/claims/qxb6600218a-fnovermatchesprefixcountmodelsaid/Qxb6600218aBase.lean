import Derived.Test.Qxb6600218aRows
import Derived.Test.Qxb6600218aPlain
import Derived.Test.Qxb6600218aZero
import Derived.WalkKit
import Derived.WalkLawsBesides
import Derived.Deep.OwnRows
import Derived.Lib.SliceRun
import Derived.Laws.CopyOwn
import Derived.Deep.QuietTactic
import Derived.BigQuiet
import Derived.Deep.DeepCutAuto
namespace Go.Proofs.Qxb6600218a
open Go.RowKit
set_option linter.unusedVariables false

/-! ### A row of integers that lies in a block of the call's own -/
/-- Block g holds just the numbers l, of kind k (the element type's number: e), none frozen. -/
def RowI (w : World) (g : Nat) (e : TypeId) (k : IntKind) (l : List Int) : Prop := w.heap[g]? = some (.cells (l.map (Value.int k)).toArray e (0, 0))

theorem RowI.cell {w : World} {g : Nat} {e : TypeId} {k : IntKind} {l : List Int} (h : RowI w g e k l) (j : Nat) (hj : j < l.length) : w.cell? ⟨g, j, none⟩ = some (.int k (l.getD j 0)) := by
  rw [cell_of_row w g j _ e (0, 0) h]
  simp [hj]
theorem RowI.frozen {w : World} {g : Nat} {e : TypeId} {k : IntKind} {l : List Int} (h : RowI w g e k l) (j : Nat) : w.frozen? ⟨g, j, none⟩ = false := frozen_of_row w g j _ e h
theorem RowI.lt {w : World} {g : Nat} {e : TypeId} {k : IntKind} {l : List Int} (h : RowI w g e k l) : g < w.heap.size := (Array.getElem?_eq_some_iff.1 h).1
theorem RowI.set {w : World} {g : Nat} {e : TypeId} {k : IntKind} {l : List Int} (h : RowI w g e k l) (j : Nat) (x : Int) : RowI (w.setCell ⟨g, j, none⟩ (.int k x)) g e k (l.set j x) := by
  unfold RowI
  rw [heap_setCell_same w g j _ e _ h]
  simp [List.map_set]
theorem RowI.other {w : World} {g : Nat} {e : TypeId} {k : IntKind} {l : List Int} (h : RowI w g e k l) {a : Addr} (v : Value) (ha : g ≠ a.block) : RowI (w.setCell a v) g e k l := by
  unfold RowI
  rw [heap_setCell_other w a g v ha]
  exact h
theorem RowI.alloc {w : World} {g : Nat} {e : TypeId} {k : IntKind} {l : List Int} (h : RowI w g e k l) (o : Obj) : RowI (w.alloc o) g e k l := by
  unfold RowI
  rw [Below.heap_alloc w o g h.lt]
  exact h
theorem RowI.below {w w' : World} {B g : Nat} {e : TypeId} {k : IntKind} {l : List Int} (h : RowI w g e k l) (hb : Below B w w') (hg : g < B) : RowI w' g e k l := by
  unfold RowI
  rw [hb.block g hg]
  exact h
theorem rowI_made (w : World) (e : TypeId) (k : IntKind) (n : Nat) : RowI (w.alloc (.cells (madeCells #[.int k 0] n) e)) w.heap.size e k (List.replicate n 0) := by
  unfold RowI
  rw [heap_alloc_new]
  have : madeCells #[Value.int k 0] n = (List.map (Value.int k) (List.replicate n 0)).toArray := by
    apply Array.toList_inj.1
    rw [toList_madeCells_one]
    simp
  rw [this]

/-! ### What a slice reads as -/
/-- A slice of n numbers of kind k, wherever it lies. -/
def Sl (k : IntKind) (w : World) (ao : Option Addr) (n : Nat) (l : List Int) : Prop :=
  l.length = n ∧ (n = 0 ∨ ∃ b off, ao = some ⟨b, off, none⟩ ∧ ∀ i, i < n → w.cell? ⟨b, off + i, none⟩ = some (.int k (l.getD i 0)))
theorem Sl.row {k : IntKind} {w : World} {ao : Option Addr} {n : Nat} {l : List Int} (h : Sl k w ao n l) (hn : 0 < n) : ∃ b off, ao = some ⟨b, off, none⟩ ∧ ∀ i, i < n → w.cell? ⟨b, off + i, none⟩ = some (.int k (l.getD i 0)) := by
  rcases h.2 with h0 | h
  · omega
  · exact h
theorem Sl.below {k : IntKind} {w w' : World} {ao : Option Addr} {n : Nat} {l : List Int} (h : Sl k w ao n l) (hb : Below w.heap.size w w') : Sl k w' ao n l := by
  obtain ⟨h1, h2⟩ := h
  refine ⟨h1, ?_⟩
  rcases h2 with h2 | ⟨b, off, h2, h3⟩
  · exact .inl h2
  · exact .inr ⟨b, off, h2, fun i hi => (hb.cell (World.block_lt_of_cell? w _ (h3 i hi))).trans (h3 i hi)⟩
/-- A slice of n such slices (of ints). -/
def Sl2 (w : World) (ao : Option Addr) (n : Nat) (H : List (List Int)) : Prop :=
  H.length = n ∧ (n = 0 ∨ ∃ b off, ao = some ⟨b, off, none⟩ ∧ ∀ i, i < n → ∃ a len cap, w.cell? ⟨b, off + i, none⟩ = some (.slice a len cap) ∧ len ≤ cap ∧ cap ≤ maxLen ∧ (a = none → cap = 0) ∧ Sl .i64 w a len (H.getD i []))
theorem Sl2.row {w : World} {ao : Option Addr} {n : Nat} {H : List (List Int)} (h : Sl2 w ao n H) (hn : 0 < n) : ∃ b off, ao = some ⟨b, off, none⟩ ∧ ∀ i, i < n → ∃ a len cap, w.cell? ⟨b, off + i, none⟩ = some (.slice a len cap) ∧ len ≤ cap ∧ cap ≤ maxLen ∧ (a = none → cap = 0) ∧ Sl .i64 w a len (H.getD i []) := by
  rcases h.2 with h0 | h
  · omega
  · exact h
theorem Sl2.below {w w' : World} {ao : Option Addr} {n : Nat} {H : List (List Int)} (h : Sl2 w ao n H) (hb : Below w.heap.size w w') : Sl2 w' ao n H := by
  obtain ⟨h1, h2⟩ := h
  refine ⟨h1, ?_⟩
  rcases h2 with h2 | ⟨b, off, h2, h3⟩
  · exact .inl h2
  · refine .inr ⟨b, off, h2, fun i hi => ?_⟩
    obtain ⟨a, len, cap, c1, c2, c3, c4, c5⟩ := h3 i hi
    exact ⟨a, len, cap, (hb.cell (World.block_lt_of_cell? w _ c1)).trans c1, c2, c3, c4, c5.below hb⟩

/-- The same of a copy: each of its slices is nil or begins at a block's head, without spare room. -/
def Sl3 (w : World) (ao : Option Addr) (n : Nat) (H : List (List Int)) : Prop :=
  H.length = n ∧ (n = 0 ∨ ∃ b off, ao = some ⟨b, off, none⟩ ∧ ∀ i, i < n → ∃ a len, w.cell? ⟨b, off + i, none⟩ = some (.slice a len len) ∧ len ≤ maxLen ∧ ((a = none ∧ len = 0) ∨ ∃ g, a = some ⟨g, 0, none⟩) ∧ Sl .i64 w a len (H.getD i []))
theorem Sl3.row {w : World} {ao : Option Addr} {n : Nat} {H : List (List Int)} (h : Sl3 w ao n H) (hn : 0 < n) : ∃ b off, ao = some ⟨b, off, none⟩ ∧ ∀ i, i < n → ∃ a len, w.cell? ⟨b, off + i, none⟩ = some (.slice a len len) ∧ len ≤ maxLen ∧ ((a = none ∧ len = 0) ∨ ∃ g, a = some ⟨g, 0, none⟩) ∧ Sl .i64 w a len (H.getD i []) := by
  rcases h.2 with h0 | h
  · omega
  · exact h
theorem Sl3.below {w w' : World} {ao : Option Addr} {n : Nat} {H : List (List Int)} (h : Sl3 w ao n H) (hb : Below w.heap.size w w') : Sl3 w' ao n H := by
  obtain ⟨h1, h2⟩ := h
  refine ⟨h1, ?_⟩
  rcases h2 with h2 | ⟨b, off, h2, h3⟩
  · exact .inl h2
  · refine .inr ⟨b, off, h2, fun i hi => ?_⟩
    obtain ⟨a, len, c1, c3, c4, c5⟩ := h3 i hi
    exact ⟨a, len, (hb.cell (World.block_lt_of_cell? w _ c1)).trans c1, c3, c4, c5.below hb⟩

/-- A slice of integers that came in (as the shells of other seats have it). -/
def IsRow (k : IntKind) (w : World) (a : Option Addr) (len cap : Nat) (zs : List Int) : Prop :=
  (a = none ∧ len = 0 ∧ cap = 0 ∧ zs = []) ∨
  ∃ x, a = some x ∧ len ≤ cap ∧ cap ≤ maxLen ∧ zs.length = cap ∧ (∀ i, i < zs.length → w.cell? (x.add i) = some (.int k (zs.getD i 0))) ∧ ∀ n ∈ zs, (Lit.int k n).wf = true

/-! ### The copies -/
theorem Try.info25 : (Try.prog.info? 25).map (fun i => (i.zero, i.size, i.bytes)) = some (some (.int .u64 0), 1, 8) := by kernel_rfl
theorem Try.info3 : (Try.prog.info? 3).map (fun i => (i.zero, i.size, i.bytes)) = some (some (.int .i64 0), 1, 8) := by kernel_rfl
theorem Try.size25 : (Try.prog.info? 25).map (·.size) = some 1 := by kernel_rfl
theorem Try.size3 : (Try.prog.info? 3).map (·.size) = some 1 := by kernel_rfl
theorem copy_src {k : IntKind} {w w' : World} {sp : Option Addr} {n : Nat} {l : List Int} (h : Sl k w sp n l) (hb : Below w.heap.size w w') :
    0 < n → ∃ ad, sp = some ad ∧ ∀ j v, (l.map (Value.int k))[j]? = some v → w'.cell? (ad.add j) = some v := by
  intro hp
  have hl0 := h.1
  obtain ⟨b, off, hx, hc⟩ := h.row hp
  refine ⟨_, hx, fun j v hj => ?_⟩
  have hjn : j < n := by
    rcases Nat.lt_or_ge j n with h' | h'
    · exact h'
    · rw [List.getElem?_eq_none (by simp; omega)] at hj; simp at hj
  rw [WideShapes.add_plain, hb.cell (World.block_lt_of_cell? w _ (hc j hjn)), hc j hjn]
  rw [List.getElem?_map] at hj
  simp [hl0, hjn] at hj
  simp [hl0, hjn, hj]
/-- copy(d, s), d a row of the call's own from its head, at least as long as s: what the run comes to. -/
theorem run_copy_into {P : Program} (w : World) (T E ty t : TypeId) (k : IntKind) (g dn dc : Nat) (sp : Option Addr) (n cap : Nat) (l : List Int) (cur : List Value) (hu : P.underlying T = some (.slice E)) (hs : (P.info? E).map (·.size) = some 1)
    (hg : w.heap[g]? = some (.cells cur.toArray t (0, 0))) (hl : l.length = n) (hn : n ≤ dn) (hcur : n ≤ cur.length) (hsrc : 0 < n → ∃ ad, sp = some ad ∧ ∀ j v, (l.map (Value.int k))[j]? = some v → w.cell? (ad.add j) = some v) (B : Nat) (w0 : World) (hb : Below B w0 w) (hBg : B ≤ g) :
    ∃ w1, (Builtin.copy_ #[T, T] ty #[.slice (some ⟨g, 0, none⟩) dn dc, .slice sp n cap]).run P w = .ok (goInt n) w1 ∧ w1.heap[g]? = some (.cells (l.map (Value.int k) ++ cur.drop n).toArray t (0, 0)) ∧ Below B w0 w1 := by
  by_cases h0 : n = 0
  · subst h0
    obtain rfl : l = [] := List.eq_nil_of_length_eq_zero hl
    exact ⟨w, run_copy_none w T T ty E _ _ _ _ _ _ hu hs (Nat.zero_min _), by simpa using hg, hb⟩
  · obtain ⟨ad, rfl, hc⟩ := hsrc (by omega)
    have hmin : (l.map (Value.int k)).length = Nat.min n dn := by simp [hl]; exact (Nat.min_eq_left hn).symm
    have h1 : ∀ v ∈ l.map (Value.int k), v.oneCell' = true := by
      intro v hv
      obtain ⟨z, _, rfl⟩ := List.mem_map.1 hv
      rfl
    have hr := run_copy_row (P := P) w T T ty E g 0 dn dc ad n cap cur.toArray t (l.map (Value.int k)) hu hs hg hmin hc (by simp [hl]; omega) h1
    refine ⟨w.setRow g (l.map (Value.int k) ++ cur.drop n).toArray, ?_, setRow_heap w g _ _ t _ hg, below_setRow hb hBg _⟩
    rw [hr]
    simp [hl]
/-- A copy of n numbers is returned; nothing old has turned. -/
def Cloned (k : IntKind) (n : Nat) (l : List Int) (w : World) (e : Ending) (w' : World) : Prop := ∃ a, e = .returned (.slice a n n) ∧ Sl k w' a n l ∧ ((a = none ∧ n = 0) ∨ ∃ g, a = some ⟨g, 0, none⟩ ∧ w.heap.size ≤ g) ∧ Below w.heap.size w w'

set_option maxHeartbeats 400000 in
theorem clone8 (ao : Option Addr) (n cap : Nat) (l : List Int) (w : World) (h : Sl .u64 w ao n l) (hnil : ao = none → n = 0) (hl : n ≤ 1048576) :
    Calls Try.prog 8 #[.slice ao n cap] w fun e w' => Cloned .u64 n l w e w' := by
  cases ao with
  | none =>
    have h0 := hnil rfl
    subst h0
    have he := fun w => Lib.run_eql_slice_nil (P := Try.prog) w 22 25 none 0 cap 0 0 Try.underlying22
    go_enter Try.func8, Try.ntmps8
    go_wp2
    go_ret
    exact ⟨_, rfl, h, .inl ⟨rfl, rfl⟩, Below.refl _ _⟩
  | some x =>
    have hmk := run_make_row' (P := Try.prog) 22 25 (.int .u64 0) 8 Try.underlying22 Try.info25 rfl .i64 .i64 n (by omega) (by omega)
    have he := fun w => Lib.run_eql_slice_nil (P := Try.prog) w 22 25 (some x) n cap 0 0 Try.underlying22
    have hl0 := h.1
    obtain ⟨w1, hcp, hrow, hb1⟩ := run_copy_into (P := Try.prog) (w.alloc (.cells (madeCells #[.int .u64 0] n) 25)) 22 25 3 25 .u64 w.heap.size n n (some x) n cap l ((List.replicate n 0).map (Value.int .u64)) Try.underlying22 Try.size25 (rowI_made w 25 .u64 n) hl0 (Nat.le_refl _) (by simp) (copy_src h ((Below.refl _ _).alloc (Nat.le_refl _) _)) w.heap.size w ((Below.refl _ _).alloc (Nat.le_refl _) _) (Nat.le_refl _)
    have HR := (show Hid _ from hrow)
    clear hrow
    go_enter Try.func8, Try.ntmps8
    go_wp2
    go_ret
    have hr : RowI w1 w.heap.size 25 .u64 l := by
      have := HR.out
      simpa [RowI] using this
    exact ⟨_, rfl, ⟨hl0, .inr ⟨w.heap.size, 0, rfl, fun i hi => by rw [Nat.zero_add]; exact hr.cell i (by omega)⟩⟩, .inr ⟨_, rfl, Nat.le_refl _⟩, hb1⟩

set_option maxHeartbeats 400000 in
theorem clone10 (ao : Option Addr) (n cap : Nat) (l : List Int) (w : World) (h : Sl .i64 w ao n l) (hnil : ao = none → n = 0) (hl : n ≤ 1048576) :
    Calls Try.prog 10 #[.slice ao n cap] w fun e w' => Cloned .i64 n l w e w' := by
  cases ao with
  | none =>
    have h0 := hnil rfl
    subst h0
    have he := fun w => Lib.run_eql_slice_nil (P := Try.prog) w 24 3 none 0 cap 0 0 Try.underlying24
    go_enter Try.func10, Try.ntmps10
    go_wp2
    go_ret
    exact ⟨_, rfl, h, .inl ⟨rfl, rfl⟩, Below.refl _ _⟩
  | some x =>
    have hmk := run_make_row' (P := Try.prog) 24 3 (.int .i64 0) 8 Try.underlying24 Try.info3 rfl .i64 .i64 n (by omega) (by omega)
    have he := fun w => Lib.run_eql_slice_nil (P := Try.prog) w 24 3 (some x) n cap 0 0 Try.underlying24
    have hl0 := h.1
    obtain ⟨w1, hcp, hrow, hb1⟩ := run_copy_into (P := Try.prog) (w.alloc (.cells (madeCells #[.int .i64 0] n) 3)) 24 3 3 3 .i64 w.heap.size n n (some x) n cap l ((List.replicate n 0).map (Value.int .i64)) Try.underlying24 Try.size3 (rowI_made w 3 .i64 n) hl0 (Nat.le_refl _) (by simp) (copy_src h ((Below.refl _ _).alloc (Nat.le_refl _) _)) w.heap.size w ((Below.refl _ _).alloc (Nat.le_refl _) _) (Nat.le_refl _)
    have HR := (show Hid _ from hrow)
    clear hrow
    go_enter Try.func10, Try.ntmps10
    go_wp2
    go_ret
    have hr : RowI w1 w.heap.size 3 .i64 l := by
      have := HR.out
      simpa [RowI] using this
    exact ⟨_, rfl, ⟨hl0, .inr ⟨w.heap.size, 0, rfl, fun i hi => by rw [Nat.zero_add]; exact hr.cell i (by omega)⟩⟩, .inr ⟨_, rfl, Nat.le_refl _⟩, hb1⟩

/-! ### The copy of a slice of slices -/
theorem Try.info24 : (Try.prog.info? 24).map (fun i => (i.zero, i.size, i.bytes)) = some (some (.slice none 0 0), 1, 24) := by kernel_rfl
/-- In the making: block g holds n slice values, the first k of them copies. -/
def Half2 (wr : World) (g n k : Nat) (H : List (List Int)) : Prop :=
  ∃ xs : List Value, wr.heap[g]? = some (.cells xs.toArray 24 (0, 0)) ∧ xs.length = n ∧ ∀ i, i < k → ∃ a len, xs[i]? = some (.slice a len len) ∧ len ≤ maxLen ∧ ((a = none ∧ len = 0) ∨ ∃ b, a = some ⟨b, 0, none⟩ ∧ b ≠ g) ∧ Sl .i64 wr a len (H.getD i [])
theorem Sl.other {k : IntKind} {w : World} {ao : Option Addr} {n : Nat} {l : List Int} (h : Sl k w ao n l) (g j : Nat) (v : Value) (hg : ∀ x, ao = some x → x.block ≠ g) : Sl k (w.setCell ⟨g, j, none⟩ v) ao n l := by
  obtain ⟨h1, h2⟩ := h
  refine ⟨h1, ?_⟩
  rcases h2 with h2 | ⟨b, off, h2, h3⟩
  · exact .inl h2
  · refine .inr ⟨b, off, h2, fun i hi => ?_⟩
    rw [World.cell?_of_block (heap_setCell_other w _ _ _ (hg _ h2))]
    exact h3 i hi
theorem apart_of {a : Option Addr} {len g : Nat} (h : (a = none ∧ len = 0) ∨ ∃ b, a = some ⟨b, 0, none⟩ ∧ b ≠ g) : ∀ x, a = some x → x.block ≠ g := by
  intro x hx
  rcases h with ⟨h, _⟩ | ⟨b, h, hb⟩
  · rw [h] at hx; simp at hx
  · rw [h] at hx; cases hx; exact hb
theorem Half2.step {wr w1 : World} {g n k : Nat} {H : List (List Int)} (h : Half2 wr g n k H) (hb : Below wr.heap.size wr w1) (hk : k < n) (a : Option Addr) (len : Nat) (h1 : len ≤ maxLen) (h2 : (a = none ∧ len = 0) ∨ ∃ g, a = some ⟨g, 0, none⟩ ∧ wr.heap.size ≤ g) (h4 : Sl .i64 w1 a len (H.getD k [])) :
    Half2 (w1.setCell ⟨g, k, none⟩ (.slice a len len)) g n (k + 1) H := by
  obtain ⟨xs, x1, x2, x3⟩ := h
  have hg : g < wr.heap.size := (Array.getElem?_eq_some_iff.1 x1).1
  have y1 : w1.heap[g]? = some (.cells xs.toArray 24 (0, 0)) := (hb.block g hg).trans x1
  refine ⟨xs.set k (.slice a len len), ?_, by simpa using x2, fun i hi => ?_⟩
  · rw [heap_setCell_same w1 g k _ 24 _ y1]; simp
  · by_cases hik : i = k
    · subst hik
      have h5 : (a = none ∧ len = 0) ∨ ∃ b, a = some ⟨b, 0, none⟩ ∧ b ≠ g := by
        rcases h2 with h | ⟨b, h, hb'⟩
        · exact .inl h
        · exact .inr ⟨b, h, by omega⟩
      exact ⟨a, len, by rw [List.getElem?_set_self (by omega)], h1, h5, h4.other g i _ (apart_of h5)⟩
    · obtain ⟨a', len', e1, e2, e3, e5⟩ := x3 i (by omega)
      exact ⟨a', len', by rw [List.getElem?_set_ne (by omega)]; exact e1, e2, e3, (e5.below hb).other g k _ (apart_of e3)⟩
theorem Half2.there {wr : World} {g n k : Nat} {H : List (List Int)} (h : Half2 wr g n k H) (w1 : World) (hb : Below wr.heap.size wr w1) (hk : k < n) : ∃ v, w1.cell? ⟨g, k, none⟩ = some v ∧ w1.frozen? ⟨g, k, none⟩ = false := by
  obtain ⟨xs, x1, x2, x3⟩ := h
  have hg : g < wr.heap.size := (Array.getElem?_eq_some_iff.1 x1).1
  have y1 : w1.heap[g]? = some (.cells xs.toArray 24 (0, 0)) := (hb.block g hg).trans x1
  exact ⟨xs[k]'(by omega), by rw [cell_of_row w1 g k _ 24 (0, 0) y1]; simp [x2, hk], frozen_of_row w1 g k _ 24 y1⟩
theorem Half2.done {wr : World} {g n : Nat} {H : List (List Int)} (h : Half2 wr g n n H) (hH : H.length = n) : Sl3 wr (some ⟨g, 0, none⟩) n H := by
  obtain ⟨xs, x1, x2, x3⟩ := h
  refine ⟨hH, .inr ⟨g, 0, rfl, fun i hi => ?_⟩⟩
  obtain ⟨a, len, e1, e2, e3, e5⟩ := x3 i hi
  refine ⟨a, len, ?_, e2, by rcases e3 with h | ⟨b, h, _⟩; exact .inl h; exact .inr ⟨b, h⟩, e5⟩
  rw [Nat.zero_add, cell_of_row wr g i _ 24 (0, 0) x1]
  simpa using e1
theorem Half2.start (w : World) (n : Nat) (H : List (List Int)) : Half2 (w.alloc (.cells (madeCells #[.slice none 0 0] n) 24)) w.heap.size n 0 H := by
  refine ⟨List.replicate n (.slice none 0 0), ?_, by simp, fun i hi => by omega⟩
  rw [heap_alloc_new]
  have : madeCells #[Value.slice none 0 0] n = (List.replicate n (Value.slice none 0 0)).toArray := by
    apply Array.toList_inj.1
    rw [toList_madeCells_one]
  rw [this]

/-- A copy of a slice of slices is returned. -/
def Cloned2 (n : Nat) (H : List (List Int)) (w : World) (e : Ending) (w' : World) : Prop := ∃ a, e = .returned (.slice a n n) ∧ Sl3 w' a n H ∧ Below w.heap.size w w'

set_option maxHeartbeats 400000 in
theorem clone9 (ao : Option Addr) (n cap : Nat) (H : List (List Int)) (w : World) (h : Sl2 w ao n H) (hnil : ao = none → n = 0) (hl : n ≤ 131072) (hin : ∀ i, i < n → (H.getD i []).length ≤ 131072) :
    Calls Try.prog 9 #[.slice ao n cap] w fun e w' => Cloned2 n H w e w' := by
  cases ao with
  | none =>
    have h0 := hnil rfl
    subst h0
    have he := fun w => Lib.run_eql_slice_nil (P := Try.prog) w 23 24 none 0 cap 0 0 Try.underlying23
    go_enter Try.func9, Try.ntmps9
    go_wp2
    go_ret
    exact ⟨_, rfl, ⟨h.1, .inl rfl⟩, Below.refl _ _⟩
  | some x =>
    have hmk := run_make_row' (P := Try.prog) 23 24 (.slice none 0 0) 24 Try.underlying23 Try.info24 rfl .i64 .i64 n (by omega) (by omega)
    have he := fun w => Lib.run_eql_slice_nil (P := Try.prog) w 23 24 (some x) n cap 0 0 Try.underlying23
    have HH : Hid (Sl2 w (some x) n H) := h
    have HIN := (show Hid _ from hin)
    clear h hin
    go_enter Try.func9, Try.ntmps9
    go_wp2
    go_loopw [4] (fun i wr => ∃ k : Nat, i = .int .i64 k ∧ k ≤ n ∧ Below w.heap.size w wr ∧ Half2 wr w.heap.size n k H) (fun i _ => n - (intOf i).toNat)
    case atStart => exact ⟨0, rfl, by omega, (Below.refl _ _).alloc (Nat.le_refl _) _, Half2.start w n H⟩
    case round =>
      obtain ⟨k, rfl, hk, hb, h2⟩ := hrel
      by_cases hlt : k < n
      · obtain ⟨b, off, hx, hc⟩ := HH.out.row (by omega)
        obtain rfl : x = ⟨b, off, none⟩ := by simpa using hx
        obtain ⟨a, len, cp, c1, c2, c3, c4, c5⟩ := hc k hlt
        have hS := HH.out
        have c1' : wr.cell? ⟨b, off + k, none⟩ = some (.slice a len cp) := (hb.cell (World.block_lt_of_cell? w _ c1)).trans c1
        have hlen : len ≤ 131072 := by rw [← c5.1]; exact HIN.out k hlt
        have hml : len ≤ maxLen := by unfold maxLen; omega
        have c5' := c5.below hb
        have C4 : Hid (a = none → len = 0) := fun h => by have := c4 h; omega
        clear c1 c3 c4 hc hx hS
        go_wp2_with fail
        refine (clone10 a len cp (H.getD k []) _ c5' C4.out (by omega)).mono ?_
        rintro e w1 ⟨a', rfl, s1, s2, hb1⟩
        obtain ⟨v, t1, t2⟩ := h2.there w1 hb1 hlt
        have h3 := h2.step hb1 hlt a' len hml s2 s1
        have hb2 : Hid (Below w.heap.size w w1) := hb.trans (hb1.mono hb.size)
        have H3 := (show Hid _ from h3)
        have S2 := (show Hid _ from s2)
        clear h3 s2 c1'
        go_wp2
        go_roundw
        case rel => exact ⟨k + 1, by go_num, by omega, hb2.out.setCell (Nat.le_refl _) _, H3.out⟩
        case measure => simp [intOf]; omega
      · go_wp2
        go_ret
        obtain rfl : k = n := by omega
        exact ⟨_, rfl, h2.done HH.out.1, hb⟩

/-! ### Small callees -/
theorem wof11 (ao : Option Addr) (n cap : Nat) (W : List Int) (s : Int) (w : World) (h : Sl .u64 w ao n W) (hn : n ≤ 9223372036854775807) :
    Calls Try.prog 11 #[.slice ao n cap, .int .i64 s] w fun e w' => e = .returned (.int .u64 (wOf W s)) ∧ w = w' := by
  have hl := h.1
  by_cases h1 : 0 ≤ s
  · obtain ⟨t, rfl⟩ := Int.eq_ofNat_of_zero_le h1
    by_cases h2 : t < n
    · obtain ⟨b, off, rfl, hc⟩ := h.row (by omega)
      have c := hc t h2
      have hw : Hid (wOf W t = W.getD t 0) := by unfold Hid wOf; rw [if_pos (by omega)]; rfl
      clear hc h
      have Hl : Hid (W.length = n) := hl
      clear hl
      go_enter Try.func11, Try.ntmps11
      go_wp2
      go_ret
      exact ⟨by rw [hw.out]; rfl, rfl⟩
    · have hw : Hid (wOf W t = 0) := by unfold Hid wOf; rw [if_neg (by omega)]
      clear h hl
      go_enter Try.func11, Try.ntmps11
      go_wp2
      go_ret
      exact ⟨by rw [hw.out]; rfl, rfl⟩
  · have hw : Hid (wOf W s = 0) := by unfold Hid wOf; rw [if_neg (by omega)]
    have hd : decide ((0 : Int) ≤ s) = false := decide_eq_false h1
    clear h hl
    go_enter Try.func11, Try.ntmps11
    go_wp2
    go_ret
    exact ⟨by rw [hw.out]; rfl, rfl⟩

/-- What pb1Add answers. -/
def addv (t n : Int) : Int := if 131072 < t ∨ 131072 < n then 131073 else t + n
theorem add14 (t n : Int) (w : World) (ht : 0 ≤ t ∧ t ≤ 9223372036854775807) (hn : 0 ≤ n ∧ n ≤ 9223372036854775807) : Calls Try.prog 14 #[.int .i64 t, .int .i64 n] w fun e w' => e = .returned (.int .i64 (addv t n)) ∧ w = w' := by
  by_cases h1 : 131072 < t
  · have hv : Hid (addv t n = 131073) := by unfold Hid addv; rw [if_pos (.inl h1)]
    go_enter Try.func14, Try.ntmps14
    go_wp2
    go_ret
    exact ⟨by rw [hv.out]; rfl, rfl⟩
  · have d1 : decide (131072 < t) = false := decide_eq_false h1
    by_cases h2 : 131072 < n
    · have hv : Hid (addv t n = 131073) := by unfold Hid addv; rw [if_pos (.inr h2)]
      go_enter Try.func14, Try.ntmps14
      go_wp2
      go_ret
      exact ⟨by rw [hv.out]; rfl, rfl⟩
    · have hv : Hid (addv t n = t + n) := by unfold Hid addv; rw [if_neg (by omega)]
      go_enter Try.func14, Try.ntmps14
      go_wp2
      go_ret
      exact ⟨by rw [hv.out]; rfl, rfl⟩
end Go.Proofs.Qxb6600218a
