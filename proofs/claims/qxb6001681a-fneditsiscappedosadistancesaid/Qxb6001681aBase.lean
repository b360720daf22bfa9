import Derived.Test.Qxb6001681aRows
import Derived.Test.Qxb6001681aPlain
import Derived.WalkKit
import Derived.WalkLawsBesides
import Derived.Deep.OwnRows
import Derived.Lib.SliceRun
import Derived.Deep.QuietTactic
import Derived.BigQuiet
import Derived.Deep.DeepCutAuto
namespace Go.Proofs.Qxb6001681a
open Go.RowKit
set_option linter.unusedVariables false

/-- The text: a slice of n characters, l; nil, or a row of a block. -/
def Txt (w : World) (ao : Option Addr) (n : Nat) (l : List Int) : Prop :=
  l.length = n ∧ ((ao = none ∧ n = 0) ∨ ∃ g, ao = some ⟨g, 0, none⟩ ∧ ∀ i, i < n → w.cell? ⟨g, i, none⟩ = some (.int .i32 (l.getD i 0)))

theorem getD_lt (l : List Int) (i : Nat) (h : i < l.length) : l.getD i 0 = l[i] := by simp [h]

/-! ### A row of integers that lies in a block of the call's own -/
/-- Block g holds just the numbers l, of kind k (the element type's number: e), none frozen. -/
def RowI (w : World) (g : Nat) (e : TypeId) (k : IntKind) (l : List Int) : Prop := w.heap[g]? = some (.cells (l.map (Value.int k)).toArray e (0, 0))

theorem RowI.cell {w : World} {g : Nat} {e : TypeId} {k : IntKind} {l : List Int} (h : RowI w g e k l) (j : Nat) (hj : j < l.length) : w.cell? ⟨g, j, none⟩ = some (.int k (l.getD j 0)) := by
  rw [cell_of_row w g j _ e (0, 0) h]
  simp [hj]
theorem RowI.frozen {w : World} {g : Nat} {e : TypeId} {k : IntKind} {l : List Int} (h : RowI w g e k l) (j : Nat) : w.frozen? ⟨g, j, none⟩ = false := frozen_of_row w g j _ e h
theorem RowI.lt {w : World} {g : Nat} {e : TypeId} {k : IntKind} {l : List Int} (h : RowI w g e k l) : g < w.heap.size := (Array.getElem?_eq_some_iff.1 h).1
theorem RowI.set {w : World} {g : Nat} {e : TypeId} {k : IntKind} {l : List Int} (h : RowI w g e k l) (j : Nat) (x : Int) : RowI (w.setCell ⟨g, j, none⟩ (.int k x)) g e k (l.set j x) := by
  unfold RowI
  rw [heap_setCell_same w g j _ e _ h]
  simp [List.map_set]
theorem RowI.other {w : World} {g : Nat} {e : TypeId} {k : IntKind} {l : List Int} (h : RowI w g e k l) {a : Addr} (v : Value) (ha : g ≠ a.block) : RowI (w.setCell a v) g e k l := by
  unfold RowI
  rw [heap_setCell_other w a g v ha]
  exact h
theorem RowI.alloc {w : World} {g : Nat} {e : TypeId} {k : IntKind} {l : List Int} (h : RowI w g e k l) (o : Obj) : RowI (w.alloc o) g e k l := by
  unfold RowI
  rw [Below.heap_alloc w o g h.lt]
  exact h
theorem RowI.below {w w' : World} {B g : Nat} {e : TypeId} {k : IntKind} {l : List Int} (h : RowI w g e k l) (hb : Below B w w') (hg : g < B) : RowI w' g e k l := by
  unfold RowI
  rw [hb.block g hg]
  exact h
theorem rowI_made (w : World) (e : TypeId) (k : IntKind) (n : Nat) : RowI (w.alloc (.cells (madeCells #[.int k 0] n) e)) w.heap.size e k (List.replicate n 0) := by
  unfold RowI
  rw [heap_alloc_new]
  have : madeCells #[Value.int k 0] n = (List.map (Value.int k) (List.replicate n 0)).toArray := by
    apply Array.toList_inj.1
    rw [toList_madeCells_one]
    simp
  rw [this]

/-! ### The copy -/
theorem Try.info21 : (Try.prog.info? 21).map (fun i => (i.zero, i.size, i.bytes)) = some (some (.int .i32 0), 1, 4) := by kernel_rfl

/-- WHAT THE WALK IS TOLD OF A SLICE OF INTEGERS THAT CAME IN (as the shell has it). -/
def IsRow (k : IntKind) (w : World) (a : Option Addr) (len cap : Nat) (zs : List Int) : Prop :=
  (a = none ∧ len = 0 ∧ cap = 0 ∧ zs = []) ∨
  ∃ x, a = some x ∧ len ≤ cap ∧ cap ≤ maxLen ∧ zs.length = cap ∧ (∀ i, i < zs.length → w.cell? (x.add i) = some (.int k (zs.getD i 0))) ∧ ∀ n ∈ zs, (Lit.int k n).wf = true

/-- In the midst of the copy: the first k are copied. -/
def half (zs : List Int) (k n : Nat) : List Int := zs.take k ++ List.replicate (n - k) 0
theorem half_zero (zs : List Int) (n : Nat) : half zs 0 n = List.replicate n 0 := by simp [half]
theorem half_all (zs : List Int) (n : Nat) : half zs n n = zs.take n := by simp [half]
theorem half_len (zs : List Int) (k n : Nat) (h : k ≤ n) (hz : n ≤ zs.length) : (half zs k n).length = n := by simp [half]; omega
theorem half_step (zs : List Int) (k n : Nat) (h : k < n) (hz : n ≤ zs.length) : (half zs k n).set k (zs.getD k 0) = half zs (k + 1) n := by
  unfold half
  obtain ⟨m, hm⟩ : ∃ m, n - k = m + 1 := ⟨n - k - 1, by omega⟩
  have hk : k < zs.length := by omega
  rw [hm, show n - (k + 1) = m from by omega, List.replicate_succ, List.set_append_right _ _ (by simp; omega), List.take_succ_eq_append_getElem hk]
  have : k - (zs.take k).length = 0 := by simp; omega
  rw [this]
  simp only [List.set_cons_zero, getD_lt zs k hk, List.append_assoc, List.singleton_append]

set_option maxHeartbeats 400000 in
theorem clone16 (a : Option Addr) (len cap : Nat) (zs : List Int) (w : World) (h : IsRow .i32 w a len cap zs) (hl : len ≤ 1048576) :
    Calls Try.prog 16 #[.slice a len cap] w fun e w' => ∃ ao, e = .returned (.slice ao len len) ∧ Txt w' ao len (zs.take len) ∧ Below w.heap.size w w' := by
  rcases h with ⟨rfl, rfl, rfl, rfl⟩ | ⟨x, rfl, hlc, hcm, hz, hc, _⟩
  · have he := fun w => Lib.run_eql_slice_nil (P := Try.prog) w 35 21 none 0 0 0 0 Try.underlying35
    go_enter Try.func16, Try.ntmps16
    go_wp2
    go_ret
    exact ⟨_, rfl, ⟨rfl, .inl ⟨rfl, rfl⟩⟩, Below.refl _ _⟩
  · obtain ⟨b, off, sp⟩ := x
    have hmk := run_make_row' (P := Try.prog) 35 21 (.int .i32 0) 4 Try.underlying35 Try.info21 rfl .i64 .i64 len (by omega) (by omega)
    have he := fun w => Lib.run_eql_slice_nil (P := Try.prog) w 35 21 (some ⟨b, off, sp⟩) len cap 0 0 Try.underlying35
    have hsp : sp = none ∨ len ≤ 0 := by
      by_cases h0 : len ≤ 0
      · exact .inr h0
      · exact .inl (by simpa [Addr.add] using World.cell?_spot (hc 0 (by omega)))
    rcases hsp with rfl | hl0
    · have hc' : ∀ i, i < zs.length → w.cell? ⟨b, off + i, none⟩ = some (.int .i32 (zs.getD i 0)) := by
        intro i hi
        have := hc i hi
        rwa [WideShapes.add_plain] at this
      have hbw : ∀ i, i < zs.length → b < w.heap.size := fun i hi => World.block_lt_of_cell? w _ (hc' i hi)
      clear hc hcm
      go_enter Try.func16, Try.ntmps16
      go_wp2
      go_loopw [4] (fun i wr => ∃ k : Nat, k ≤ len ∧ i = .int .i64 k ∧ Below w.heap.size w wr ∧ RowI wr w.heap.size 21 .i32 (half zs k len)) (fun i _ => len - (intOf i).toNat)
      case atStart => exact ⟨0, by omega, rfl, (Below.refl _ _).alloc (Nat.le_refl _) _, by rw [half_zero]; exact rowI_made _ _ _ _⟩
      case round =>
        obtain ⟨k, hk, rfl, hb, hr⟩ := hrel
        by_cases hlt : k < len
        · have hck : wr.cell? ⟨b, off + k, none⟩ = some (.int .i32 (zs.getD k 0)) := (hb.cell (hbw k (by omega))).trans (hc' k (by omega))
          have hco := hr.cell k (by rw [half_len zs k len hk (by omega)]; exact hlt)
          have hcf := hr.frozen k
          have R := half_step zs k len hlt (by omega) ▸ hr.set k (zs.getD k 0)
          have HR := (show Hid _ from R)
          clear R
          go_wp2
          go_roundw
          case rel => exact ⟨k + 1, by omega, by go_num, hb.setCell (Nat.le_refl _) _, HR.out⟩
          case measure => simp [intOf]; omega
        · go_wp2
          go_ret
          have : k = len := by omega
          subst this
          refine ⟨_, rfl, ⟨by rw [List.length_take]; omega, .inr ⟨w.heap.size, rfl, ?_⟩⟩, hb⟩
          intro i hi
          rw [half_all] at hr
          exact hr.cell i (by rw [List.length_take]; omega)
    · clear hc hcm
      go_enter Try.func16, Try.ntmps16
      go_wp2
      go_loopw [4] (fun i wr => i = .int .i64 0 ∧ Below w.heap.size w wr) (fun i _ => 0)
      case atStart => exact ⟨rfl, (Below.refl _ _).alloc (Nat.le_refl _) _⟩
      case round =>
        obtain ⟨rfl, hb⟩ := hrel
        go_wp2
        go_ret
        exact ⟨_, rfl, ⟨by rw [List.length_take]; omega, .inr ⟨w.heap.size, rfl, fun i hi => by omega⟩⟩, hb⟩

theorem Try.info3 : (Try.prog.info? 3).map (fun i => (i.zero, i.size, i.bytes)) = some (some (.int .i64 0), 1, 8) := by kernel_rfl

theorem min32 (x y z : Int) (w : World) : Calls Try.prog 32 #[.int .i64 x, .int .i64 y, .int .i64 z] w fun e w' => e = .returned (.int .i64 (min x (min y z))) ∧ w' = w := by
  go_enter Try.func32, Try.ntmps32
  go_wp2
  all_goals
    go_ret
    refine ⟨?_, rfl⟩
    show Ending.returned (.int .i64 _) = Ending.returned (.int .i64 _)
    congr 2
    omega

theorem zz15 (a b : Option Addr) (n m c d : Nat) (x : Int) (w : World) (hn : n ≤ 1024) (hm : m ≤ 1024) :
    Calls Try.prog 15 #[.slice a n c, .slice b m d, .int .i64 x] w fun e w' => e = .returned (.bool true) ∧ w' = w := by
  go_enter Try.func15, Try.ntmps15
  go_wp2
  go_ret
  exact ⟨rfl, rfl⟩

theorem at40 (L W g pw pp : Nat) (l : List Int) (f : Nat → Int) (k : Int) (w : World) (hW : W = 2 * L + 1) (hL : L ≤ 1024) (hr : RowI w g 3 .i64 l) (hl : l.length = W) (hf : ∀ t, t < W → l.getD t 0 = f t)
    (hpw : w.cell? ⟨pw, 0, none⟩ = some (.int .i64 W)) (hpp : w.cell? ⟨pp, 0, none⟩ = some (.int .i64 ((L : Int) + 1))) (hk : -4000 ≤ k ∧ k ≤ 4000) :
    Calls Try.prog 40 #[.slice (some ⟨g, 0, none⟩) W W, .int .i64 k, .pointer (some ⟨pw, 0, none⟩), .pointer (some ⟨pp, 0, none⟩)] w fun e w' => e = .returned (.int .i64 (atv L f k)) ∧ w' = w := by
  have HW : Hid (W = 2 * L + 1) := hW
  have HL : Hid (l.length = W) := hl
  have HF : Hid (∀ t, t < W → l.getD t 0 = f t) := hf
  have hw1 : W ≤ 2049 := by omega
  clear hW hl hf
  by_cases h1 : k < 0
  · have ha : Hid (atv L f k = (L : Int) + 1) := by unfold Hid atv; rw [if_pos (.inl h1)]
    go_enter Try.func40, Try.ntmps40
    go_wp2
    go_ret
    exact ⟨by rw [ha.out]; rfl, rfl⟩
  · obtain ⟨t, rfl⟩ := Int.eq_ofNat_of_zero_le (by omega : 0 ≤ k)
    by_cases h2 : t < W
    · have ha : Hid (atv L f t = f t) := by unfold Hid atv; rw [if_neg (by have := HW.out; omega)]; rfl
      have hd : decide ((t : Int) < 0) = false := decide_eq_false h1
      have hc := hr.cell t (by rw [HL.out]; exact h2)
      rw [HF.out t h2] at hc
      clear h1
      go_enter Try.func40, Try.ntmps40
      go_wp2
      go_ret
      exact ⟨by rw [ha.out]; rfl, rfl⟩
    · have ha : Hid (atv L f t = (L : Int) + 1) := by unfold Hid atv; rw [if_pos (by have := HW.out; omega)]
      have hd : decide ((t : Int) < 0) = false := decide_eq_false h1
      clear h1
      go_enter Try.func40, Try.ntmps40
      go_wp2
      go_ret
      exact ⟨by rw [ha.out]; rfl, rfl⟩

theorem Txt.row {w : World} {ao : Option Addr} {n : Nat} {l : List Int} (h : Txt w ao n l) (hn : 0 < n) : ∃ g, ao = some ⟨g, 0, none⟩ ∧ ∀ i, i < n → w.cell? ⟨g, i, none⟩ = some (.int .i32 (l.getD i 0)) := by
  rcases h.2 with ⟨_, h0⟩ | h
  · omega
  · exact h
theorem cost_ways {A B : List Int} {i j : Nat} {a b : Int} (ha : A.getD i 0 = a) (hb : B.getD j 0 = b) : (a == b) = true ∧ Hid (cost A B i j = 0) ∨ (a == b) = false ∧ Hid (cost A B i j = 1) := by
  unfold cost Hid
  rw [ha, hb]
  by_cases h : a = b
  · left; simp [h]
  · right; simp [h]
theorem swap_no1 {A B : List Int} {i j : Nat} (h : ¬ 1 ≤ i) : Hid (swapB A B i j = false) := by
  unfold Hid swapB; rw [decide_eq_false h]; rfl
theorem swap_no2 {A B : List Int} {i j : Nat} (h : ¬ 1 ≤ j) : Hid (swapB A B i j = false) := by
  unfold Hid swapB; rw [decide_eq_false h]; simp
theorem swap_at {A B : List Int} {i j : Nat} (h1 : 1 ≤ i) (h2 : 1 ≤ j) {a a2 b b2 : Int} (ha : A.getD i 0 = a) (ha2 : A.getD (i - 1) 0 = a2) (hb : B.getD j 0 = b) (hb2 : B.getD (j - 1) 0 = b2) : swapB A B i j = (a == b2 && a2 == b) := by
  unfold swapB; rw [decide_eq_true h1, decide_eq_true h2, ha, ha2, hb, hb2]; rfl
end Go.Proofs.Qxb6001681a
