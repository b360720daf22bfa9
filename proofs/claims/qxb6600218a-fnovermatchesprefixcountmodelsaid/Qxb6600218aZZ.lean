import Derived.Test.Qxb6600218aOver
namespace Go.Proofs.Qxb6600218a
open Go.RowKit
set_option linter.unusedVariables false

/-- The balancer's block and the search's, as ZZB1Over lays them. -/
def blk48 (zs : Array Value) (pa : Nat) (h : Value) : Obj := .cells ((zs.setIfInBounds 0 (.pointer (some ⟨pa, 0, none⟩))).setIfInBounds 16389 h) 48
def blk51 (pb pa : Nat) (lim : Int) (o n : Value) : Obj := .cells #[.pointer (some ⟨pb, 0, none⟩), .int .u64 lim, .pointer (some ⟨pa, 0, none⟩), .slice none 0 0, o, .slice none 0 0, n, .slice none 0 0] 51

theorem srch_made (w w1 : World) (W : List Int) (H : List (List Int)) (O Nx : List Int) (lim : Int) (M : Nat) (ofA hA nA : Option Addr) (c1 c2 c3 : Nat) (zs : Array Value) (hzs : zs.size = 16395)
    (hb : Below w.heap.size w w1) (hlt : w.heap.size < w1.heap.size) (hr : RowI w1 w.heap.size 53 .u64 (W ++ List.replicate (16384 - W.length) 0)) (sO : Sl .u64 w ofA M O) (sN : Sl .i64 w nA M Nx) (sH : Sl3 w hA M H) :
    Srch ((w1.alloc (blk48 zs w.heap.size (.slice hA M c3))).alloc (blk51 w1.heap.size w.heap.size lim (.slice ofA M c1) (.slice nA M c2))) W H O Nx lim (w1.heap.size + 1) w1.heap.size w.heap.size M ofA hA nA c1 c2 c3 := by
  have s1 : (w1.alloc (blk48 zs w.heap.size (.slice hA M c3))).heap.size = w1.heap.size + 1 := by simp
  have hB : Below w.heap.size w ((w1.alloc (blk48 zs w.heap.size (.slice hA M c3))).alloc (blk51 w1.heap.size w.heap.size lim (.slice ofA M c1) (.slice nA M c2))) :=
    (hb.alloc hb.size _).alloc (by rw [s1]; omega) _
  have g51 : ((w1.alloc (blk48 zs w.heap.size (.slice hA M c3))).alloc (blk51 w1.heap.size w.heap.size lim (.slice ofA M c1) (.slice nA M c2))).heap[w1.heap.size + 1]? = some (blk51 w1.heap.size w.heap.size lim (.slice ofA M c1) (.slice nA M c2)) := by
    have := heap_alloc_new (w1.alloc (blk48 zs w.heap.size (.slice hA M c3))) (blk51 w1.heap.size w.heap.size lim (.slice ofA M c1) (.slice nA M c2))
    rwa [s1] at this
  have g48 : ((w1.alloc (blk48 zs w.heap.size (.slice hA M c3))).alloc (blk51 w1.heap.size w.heap.size lim (.slice ofA M c1) (.slice nA M c2))).heap[w1.heap.size]? = some (blk48 zs w.heap.size (.slice hA M c3)) := by
    rw [Below.heap_alloc _ _ _ (by rw [s1]; omega), heap_alloc_new]
  have hrr : RowI ((w1.alloc (blk48 zs w.heap.size (.slice hA M c3))).alloc (blk51 w1.heap.size w.heap.size lim (.slice ofA M c1) (.slice nA M c2))) w.heap.size 53 .u64 (W ++ List.replicate (16384 - W.length) 0) := (hr.alloc _).alloc _
  generalize ((w1.alloc (blk48 zs w.heap.size (.slice hA M c3))).alloc (blk51 w1.heap.size w.heap.size lim (.slice ofA M c1) (.slice nA M c2))) = wx at hB g51 g48 hrr ⊢
  unfold blk51 at g51
  unfold blk48 at g48
  refine ⟨?_, ?_, ?_, ?_, ?_, ?_, hrr, sO.below hB, sN.below hB, sH.below hB⟩
  · rw [cell_of_row _ _ _ _ _ _ g51]; rfl
  · rw [cell_of_row _ _ _ _ _ _ g51]; rfl
  · rw [cell_of_row _ _ _ _ _ _ g51]; rfl
  · rw [cell_of_row _ _ _ _ _ _ g51]; rfl
  · rw [cell_of_row _ _ _ _ _ _ g48, Array.getElem?_setIfInBounds_ne (by omega), Array.getElem?_setIfInBounds_self_of_lt (by omega)]
  · rw [cell_of_row _ _ _ _ _ _ g48, Array.getElem?_setIfInBounds_self_of_lt (by simp [hzs])]

set_option maxHeartbeats 1000000 in
theorem over12 (W : List Int) (H : List (List Int)) (O Nx : List Int) (lim : Int) (d n M : Nat) (wA ofA hA nA : Option Addr) (c0 c1 c2 c3 : Nat) (w : World) (sW : Sl .u64 w wA n W) (sH : Sl3 w hA M H) (sO : Sl .u64 w ofA M O) (sN : Sl .i64 w nA M Nx)
    (hp : Prem W H O Nx) (uW : U64 W) (uO : U64 O) (hl : 0 ≤ lim ∧ lim ≤ 18446744073709551615) (hd : d ≤ 1073741824) (hM : M ≤ 131072) :
    Calls Try.prog 12 #[.slice wA n c0, .slice hA M c3, .slice ofA M c1, .slice nA M c2, .int .u64 lim, .int .i64 d] w fun e w' => ∃ gm gn, e = .returned (.tuple #[.int .i64 gm, .int .i64 gn]) ∧ OverIs W H O Nx lim d gm gn ∧ Below w.heap.size w w' := by
  obtain ⟨zs, hz, hzs⟩ := zeros48
  have hne : ¬ zs = #[] := by intro h; rw [h] at hzs; simp at hzs
  have hn : n ≤ 16384 := by have := hp.lenW; have := sW.1; omega
  go_enter Try.func12, Try.ntmps12
  go_wp2_with fail
  refine (arr15 wA n c0 W _ sW hn).mono ?_
  rintro e w1 ⟨rfl, hr, hb⟩
  have HR : Hid (RowI w1 w.heap.size 53 .u64 (W ++ List.replicate (16384 - W.length) 0)) := by unfold Hid; rw [sW.1]; exact hr
  have hlt := hr.lt
  clear hr
  go_wp2_with fail
  refine (over16 W H O Nx lim d (w1.heap.size + 1) w1.heap.size w.heap.size M ofA hA nA c1 c2 c3 _ (srch_made w w1 W H O Nx lim M ofA hA nA c1 c2 c3 zs hzs hb hlt HR.out sO sN sH) hp uW uO hl hd hM).mono ?_
  rintro e w2 ⟨gm, gn, rfl, hov, hb2⟩
  go_wp2
  go_ret2
  exact ⟨_, _, rfl, hov, ((hb.alloc hb.size _).alloc (by simp; have := hb.size; omega) _).trans (hb2.mono (by simp; have := hb.size; omega))⟩
end Go.Proofs.Qxb6600218a
