import Derived.Test.Qxb6001733aRows
import Derived.WalkKit
import Derived.Deep.OwnRows
import Derived.Lib.SliceRun
namespace Go.Proofs.Qxb6001733a
open Go.RowKit
set_option linter.unusedVariables false

/-- A space or a tab. -/
def blankB (c : Int) : Bool := c == 32 || c == 9

theorem isBlank_any (c : Int) (w : World) : Calls Try.prog 22 #[.int .i32 c] w fun e w' => e = .returned (.bool (blankB c)) ∧ w' = w := by
  by_cases h : (c == 32) = true
  · go_enter Try.func22, Try.ntmps22
    go_wp2
    go_ret
    exact ⟨by simp [blankB, h], rfl⟩
  · have h' : (c == 32) = false := by simpa using h
    go_enter Try.func22, Try.ntmps22
    go_wp2
    go_ret
    exact ⟨by simp [blankB, h'], rfl⟩

theorem isBlankRune_any (c : Int) (w : World) : Calls Try.prog 11 #[.int .i32 c] w fun e w' => e = .returned (.bool (blankB c)) ∧ w' = w := by
  by_cases h : (c == 32) = true
  · go_enter Try.func11, Try.ntmps11
    go_wp2
    go_ret
    exact ⟨by simp [blankB, h], rfl⟩
  · have h' : (c == 32) = false := by simpa using h
    go_enter Try.func11, Try.ntmps11
    go_wp2
    go_ret
    exact ⟨by simp [blankB, h'], rfl⟩

/-- What skipBlanks answers: 'r' is where the skip from 'k' lands. -/
structure Skip (l : List Int) (k r : Nat) : Prop where
  lo : k ≤ r
  hi : r ≤ l.length ∨ r = k
  run : ∀ i, k ≤ i → i < r → blankB (l.getD i 0) = true
  stop : r < l.length → blankB (l.getD r 0) = false

/-- The text: a slice of n characters, l; nil, or a row of a block. -/
def Txt (w : World) (ao : Option Addr) (n : Nat) (l : List Int) : Prop :=
  l.length = n ∧ ((ao = none ∧ n = 0) ∨ ∃ g, ao = some ⟨g, 0, none⟩ ∧ ∀ i, i < n → w.cell? ⟨g, i, none⟩ = some (.int .i32 (l.getD i 0)))

theorem getD_lt (l : List Int) (i : Nat) (h : i < l.length) : l.getD i 0 = l[i] := by simp [h]

set_option maxHeartbeats 400000 in
theorem skip19 (l : List Int) (ao : Option Addr) (n k : Nat) (w : World) (hv : Txt w ao n l) (hl : n ≤ 1048576) (hk : k ≤ 9223372036854775807) :
    Calls Try.prog 19 #[.slice ao n n, .int .i64 k] w fun e w' => ∃ r : Nat, e = .returned (.int .i64 r) ∧ Skip l k r ∧ w' = w := by
  obtain ⟨hn, hv⟩ := hv
  rcases hv with ⟨rfl, h0⟩ | ⟨g, rfl, hc⟩
  · have h0' : n ≤ 0 := by omega
    have Hn : Hid (l.length = n) := hn
    clear h0 hn
    go_enter Try.func19, Try.ntmps19
    go_wp2
    go_loop [1] (fun i => i = .int .i64 k) (fun _ => 0)
    case atStart => rfl
    case round =>
      subst hrel
      go_wp2
      go_ret
      exact ⟨k, rfl, ⟨by omega, by omega, fun i h1 h2 => by omega, fun h => by have := Hn.out; omega⟩, rfl⟩
  · go_enter Try.func19, Try.ntmps19
    go_wp2
    go_loop [1] (fun i => ∃ r : Nat, i = .int .i64 r ∧ k ≤ r ∧ (r ≤ n ∨ r = k) ∧ ∀ j, k ≤ j → j < r → blankB (l.getD j 0) = true) (fun i => n - (intOf i).toNat)
    case atStart => exact ⟨k, rfl, by omega, by omega, fun i h1 h2 => by omega⟩
    case round =>
      obtain ⟨r, rfl, h1, h2, h3⟩ := hrel
      by_cases hlt : r < n
      · have hcr := hc r hlt
        go_wp2_with (go_at_call 22; refine (isBlank_any _ _).mono ?_; rintro e w' ⟨rfl, rfl⟩)
        · go_round
          case rel =>
            refine ⟨r + 1, by go_num, by omega, by omega, fun j hj1 hj2 => ?_⟩
            by_cases hj : j = r
            · subst hj; rw [getD_lt l j (by omega)]; assumption
            · exact h3 j hj1 (by omega)
          case measure => simp [intOf]; omega
        · go_ret
          exact ⟨r, rfl, ⟨h1, by omega, h3, fun h => by rw [getD_lt l r h]; assumption⟩, rfl⟩
      · go_wp2
        go_ret
        exact ⟨r, rfl, ⟨h1, by omega, h3, fun h => by omega⟩, rfl⟩

theorem skip10 (l : List Int) (ao : Option Addr) (n k : Nat) (w : World) (hv : Txt w ao n l) (hl : n ≤ 1048576) (hk : k ≤ 9223372036854775807) :
    Calls Try.prog 10 #[.slice ao n n, .int .i64 k] w fun e w' => ∃ r : Nat, e = .returned (.int .i64 r) ∧ Skip l k r ∧ w' = w := by
  go_enter Try.func10, Try.ntmps10
  go_wp2_with (go_at_call 19; refine (skip19 l _ _ _ _ hv hl hk).mono ?_; rintro e w' ⟨r, rfl, hs, rfl⟩)
  go_ret
  exact ⟨_, rfl, by assumption, rfl⟩

/-! ### A row of integers that lies in a block of the call's own -/
/-- Block g holds just the numbers l, of kind k (the element type's number: e), none frozen. -/
def RowI (w : World) (g : Nat) (e : TypeId) (k : IntKind) (l : List Int) : Prop := w.heap[g]? = some (.cells (l.map (Value.int k)).toArray e (0, 0))

theorem RowI.cell {w : World} {g : Nat} {e : TypeId} {k : IntKind} {l : List Int} (h : RowI w g e k l) (j : Nat) (hj : j < l.length) : w.cell? ⟨g, j, none⟩ = some (.int k (l.getD j 0)) := by
  rw [cell_of_row w g j _ e (0, 0) h]
  simp [hj]
theorem RowI.frozen {w : World} {g : Nat} {e : TypeId} {k : IntKind} {l : List Int} (h : RowI w g e k l) (j : Nat) : w.frozen? ⟨g, j, none⟩ = false := frozen_of_row w g j _ e h
theorem RowI.lt {w : World} {g : Nat} {e : TypeId} {k : IntKind} {l : List Int} (h : RowI w g e k l) : g < w.heap.size := (Array.getElem?_eq_some_iff.1 h).1
theorem RowI.set {w : World} {g : Nat} {e : TypeId} {k : IntKind} {l : List Int} (h : RowI w g e k l) (j : Nat) (x : Int) : RowI (w.setCell ⟨g, j, none⟩ (.int k x)) g e k (l.set j x) := by
  unfold RowI
  rw [heap_setCell_same w g j _ e _ h]
  simp [List.map_set]
theorem RowI.other {w : World} {g : Nat} {e : TypeId} {k : IntKind} {l : List Int} (h : RowI w g e k l) {a : Addr} (v : Value) (ha : g ≠ a.block) : RowI (w.setCell a v) g e k l := by
  unfold RowI
  rw [heap_setCell_other w a g v ha]
  exact h
theorem RowI.alloc {w : World} {g : Nat} {e : TypeId} {k : IntKind} {l : List Int} (h : RowI w g e k l) (o : Obj) : RowI (w.alloc o) g e k l := by
  unfold RowI
  rw [Below.heap_alloc w o g h.lt]
  exact h
theorem RowI.below {w w' : World} {B g : Nat} {e : TypeId} {k : IntKind} {l : List Int} (h : RowI w g e k l) (hb : Below B w w') (hg : g < B) : RowI w' g e k l := by
  unfold RowI
  rw [hb.block g hg]
  exact h
theorem rowI_made (w : World) (e : TypeId) (k : IntKind) (n : Nat) : RowI (w.alloc (.cells (madeCells #[.int k 0] n) e)) w.heap.size e k (List.replicate n 0) := by
  unfold RowI
  rw [heap_alloc_new]
  have : madeCells #[Value.int k 0] n = (List.map (Value.int k) (List.replicate n 0)).toArray := by
    apply Array.toList_inj.1
    rw [toList_madeCells_one]
    simp
  rw [this]

/-! ### The copy -/
theorem Try.info21 : (Try.prog.info? 21).map (fun i => (i.zero, i.size, i.bytes)) = some (some (.int .i32 0), 1, 4) := by kernel_rfl

/-- WHAT THE WALK IS TOLD OF A SLICE OF INTEGERS THAT CAME IN (as the shell has it). -/
def IsRow (k : IntKind) (w : World) (a : Option Addr) (len cap : Nat) (zs : List Int) : Prop :=
  (a = none ∧ len = 0 ∧ cap = 0 ∧ zs = []) ∨
  ∃ x, a = some x ∧ len ≤ cap ∧ cap ≤ maxLen ∧ zs.length = cap ∧ (∀ i, i < zs.length → w.cell? (x.add i) = some (.int k (zs.getD i 0))) ∧ ∀ n ∈ zs, (Lit.int k n).wf = true

/-- In the midst of the copy: the first k are copied. -/
def half (zs : List Int) (k n : Nat) : List Int := zs.take k ++ List.replicate (n - k) 0
theorem half_zero (zs : List Int) (n : Nat) : half zs 0 n = List.replicate n 0 := by simp [half]
theorem half_all (zs : List Int) (n : Nat) : half zs n n = zs.take n := by simp [half]
theorem half_len (zs : List Int) (k n : Nat) (h : k ≤ n) (hz : n ≤ zs.length) : (half zs k n).length = n := by simp [half]; omega
theorem half_step (zs : List Int) (k n : Nat) (h : k < n) (hz : n ≤ zs.length) : (half zs k n).set k (zs.getD k 0) = half zs (k + 1) n := by
  unfold half
  obtain ⟨m, hm⟩ : ∃ m, n - k = m + 1 := ⟨n - k - 1, by omega⟩
  have hk : k < zs.length := by omega
  rw [hm, show n - (k + 1) = m from by omega, List.replicate_succ, List.set_append_right _ _ (by simp; omega), List.take_succ_eq_append_getElem hk]
  have : k - (zs.take k).length = 0 := by simp; omega
  rw [this]
  simp only [List.set_cons_zero, getD_lt zs k hk, List.append_assoc, List.singleton_append]

set_option maxHeartbeats 400000 in
theorem clone9 (a : Option Addr) (len cap : Nat) (zs : List Int) (w : World) (h : IsRow .i32 w a len cap zs) (hl : len ≤ 1048576) :
    Calls Try.prog 9 #[.slice a len cap] w fun e w' => ∃ ao, e = .returned (.slice ao len len) ∧ Txt w' ao len (zs.take len) ∧ Below w.heap.size w w' := by
  rcases h with ⟨rfl, rfl, rfl, rfl⟩ | ⟨x, rfl, hlc, hcm, hz, hc, _⟩
  · have he := fun w => Lib.run_eql_slice_nil (P := Try.prog) w 22 21 none 0 0 0 0 Try.underlying22
    go_enter Try.func9, Try.ntmps9
    go_wp2
    go_ret
    exact ⟨_, rfl, ⟨rfl, .inl ⟨rfl, rfl⟩⟩, Below.refl _ _⟩
  · obtain ⟨b, off, sp⟩ := x
    have hmk := run_make_row' (P := Try.prog) 22 21 (.int .i32 0) 4 Try.underlying22 Try.info21 rfl .i64 .i64 len (by omega) (by omega)
    have he := fun w => Lib.run_eql_slice_nil (P := Try.prog) w 22 21 (some ⟨b, off, sp⟩) len cap 0 0 Try.underlying22
    have hsp : sp = none ∨ len ≤ 0 := by
      by_cases h0 : len ≤ 0
      · exact .inr h0
      · exact .inl (by simpa [Addr.add] using World.cell?_spot (hc 0 (by omega)))
    rcases hsp with rfl | hl0
    · have hc' : ∀ i, i < zs.length → w.cell? ⟨b, off + i, none⟩ = some (.int .i32 (zs.getD i 0)) := by
        intro i hi
        have := hc i hi
        rwa [WideShapes.add_plain] at this
      have hbw : ∀ i, i < zs.length → b < w.heap.size := fun i hi => World.block_lt_of_cell? w _ (hc' i hi)
      clear hc hcm
      go_enter Try.func9, Try.ntmps9
      go_wp2
      go_loopw [4] (fun i wr => ∃ k : Nat, k ≤ len ∧ i = .int .i64 k ∧ Below w.heap.size w wr ∧ RowI wr w.heap.size 21 .i32 (half zs k len)) (fun i _ => len - (intOf i).toNat)
      case atStart => exact ⟨0, by omega, rfl, (Below.refl _ _).alloc (Nat.le_refl _) _, by rw [half_zero]; exact rowI_made _ _ _ _⟩
      case round =>
        obtain ⟨k, hk, rfl, hb, hr⟩ := hrel
        by_cases hlt : k < len
        · have hck : wr.cell? ⟨b, off + k, none⟩ = some (.int .i32 (zs.getD k 0)) := (hb.cell (hbw k (by omega))).trans (hc' k (by omega))
          have hco := hr.cell k (by rw [half_len zs k len hk (by omega)]; exact hlt)
          have hcf := hr.frozen k
          have R := half_step zs k len hlt (by omega) ▸ hr.set k (zs.getD k 0)
          have HR := (show Hid _ from R)
          clear R
          go_wp2
          go_roundw
          case rel => exact ⟨k + 1, by omega, by go_num, hb.setCell (Nat.le_refl _) _, HR.out⟩
          case measure => simp [intOf]; omega
        · go_wp2
          go_ret
          have : k = len := by omega
          subst this
          refine ⟨_, rfl, ⟨by rw [List.length_take]; omega, .inr ⟨w.heap.size, rfl, ?_⟩⟩, hb⟩
          intro i hi
          rw [half_all] at hr
          exact hr.cell i (by rw [List.length_take]; omega)
    · clear hc hcm
      go_enter Try.func9, Try.ntmps9
      go_wp2
      go_loopw [4] (fun i wr => i = .int .i64 0 ∧ Below w.heap.size w wr) (fun i _ => 0)
      case atStart => exact ⟨rfl, (Below.refl _ _).alloc (Nat.le_refl _) _⟩
      case round =>
        obtain ⟨rfl, hb⟩ := hrel
        go_wp2
        go_ret
        exact ⟨_, rfl, ⟨by rw [List.length_take]; omega, .inr ⟨w.heap.size, rfl, fun i hi => by omega⟩⟩, hb⟩
end Go.Proofs.Qxb6001733a
