/-
  The proof of 'Rows.FnOverMatchesPrefixCountModelSaid': the frame is the guide's way (as the shells of the sister seats have it), the [][]int opened by Derived/Deep/Matrix.lean; the walk lies in Qxb6600218aLaw.
-/
import Derived.Test.Qxb6600218aRows
import Derived.Test.Qxb6600218aLaw
import Derived.WalkKit
import Derived.ProofKit
import Derived.OpenShut
import Derived.ShutString
import Derived.ChangeOld
import Derived.Below
import Derived.Deep.Matrix
namespace Go.Proofs.Qxb6600218a.fnOverMatchesPrefixCountModel
open Go.ChangeShapes Go.WideShapes Go.ChangeAt Go.RowKit
set_option linter.unusedVariables false

theorem own : ownKnob Try.prog.godebug = none := by kernel_rfl
theorem laidOut : laidOutB Try.prog = true := by kernel_rfl

/-! ### From what the row reads to what the walk is told -/
theorem sl_of {k : IntKind} {w : World} {ao : Option Addr} {len cap : Nat} {zs : List Int} (hl : len ≤ cap) (hz : zs.length = cap) (hnone : ao = none → cap = 0) (hc : ∀ x, ao = some x → ∀ i, i < cap → w.cell? (x.add i) = some (.int k (zs.getD i 0))) : Sl k w ao len (zs.take len) := by
  refine ⟨by rw [List.length_take]; omega, ?_⟩
  by_cases h0 : len = 0
  · exact .inl h0
  · right
    cases ao with
    | none => have := hnone rfl; omega
    | some x =>
      obtain ⟨b, off, sp⟩ := x
      have hsp : sp = none := by simpa [Addr.add] using World.cell?_spot (hc _ rfl 0 (by omega))
      subst hsp
      refine ⟨b, off, rfl, fun i hi => ?_⟩
      have := hc _ rfl i (by omega)
      rw [add_plain] at this
      rw [this]
      simp only [List.getD_eq_getElem?_getD]
      rw [List.getElem?_take_of_lt hi]
theorem u64_of {zs : List Int} {len : Nat} (h : ∀ n ∈ zs, (Lit.int .u64 n).wf = true) : U64 (zs.take len) := by
  intro i
  by_cases hi : i < (zs.take len).length
  · rw [List.getD_eq_getElem?_getD, List.getElem?_eq_getElem hi]
    have := bounds_u64 (h _ (List.mem_of_mem_take (List.getElem_mem hi)))
    exact this
  · rw [List.getD_eq_getElem?_getD, List.getElem?_eq_none (by omega)]
    show (0 : Int) ≤ 0 ∧ (0 : Int) ≤ 18446744073709551615
    omega

set_option maxRecDepth 100000 in
theorem lifted (os : Os) (started : os.Started) (H : Type) (enc : TypeId × Value → H) :
    ReturnsInHanded {} Try.checked os 3 .any (Rows.fnOverMatchesPrefixCountModelSpec.pre6 enc Try.prog Try.f3 Rows.fnOverMatchesPrefixCountModelRow.domain false) (Rows.fnOverMatchesPrefixCountModelSpec.post enc Try.prog Try.f3 false true false false) := by
  refine returnsInHanded_of_change (C := Try.checked) own started (by kernel_rfl) Try.func3
    (ChangeSpec.witness6 (enc := enc) (C := Try.checked) false ⟨#[], #[.slice none 0 0, .slice none 0 0, .slice none 0 0, .slice none 0 0, .int .u64 0, .int .i64 0], []⟩ 8 (by kernel_rfl) (by kernel_rfl) (by kernel_rfl) (by kernel_rfl)) ?_
  intro W base args ds gs before hval0 hW hcnd _
  have hval : ∀ (j : Nat) t v, Try.f3.params[j]? = some t → args[j]? = some v → Value.okWide Try.prog W .any base t v := hval0
  have hW' := hW
  obtain ⟨p, q, hA0, hV, rfl, hfz, hnd⟩ := hW
  have hA : DataW.TrodAll enc Try.prog W 0 (fun _ => true) true Try.f3.params.toList args.toList ds p := hA0
  rw [Try.params3] at hA hval
  obtain ⟨v0, vs0, d0, ds0, p0, q0, hargs, rfl, rfl, h0, r0⟩ := trodAll_cons hA
  obtain ⟨v1, vs1, d1, ds1, p1, q1, rfl, rfl, rfl, h1, r1⟩ := trodAll_cons r0
  obtain ⟨v2, vs2, d2, ds2, p2, q2, rfl, rfl, rfl, h2, r2⟩ := trodAll_cons r1
  obtain ⟨v3, vs3, d3, ds3, p3, q3, rfl, rfl, rfl, h3, r3⟩ := trodAll_cons r2
  obtain ⟨v4, vs4, d4, ds4, p4, q4, rfl, rfl, rfl, h4, r4⟩ := trodAll_cons r3
  obtain ⟨v5, vs5, d5, ds5, p5, q5, rfl, rfl, rfl, h5, r5⟩ := trodAll_cons r4
  obtain ⟨rfl, rfl, rfl⟩ := trodAll_nil r5
  obtain rfl : args = #[v0, v1, v2, v3, v4, v5] := by cases args; simp_all
  obtain ⟨rfl, rfl⟩ := trodVars_none hV
  obtain ⟨a0, len0, cap0, rfl⟩ := okWide_slice Try.underlying22 (hval 0 22 v0 rfl rfl)
  obtain ⟨a1, len1, cap1, rfl⟩ := okWide_slice Try.underlying23 (hval 1 23 v1 rfl rfl)
  obtain ⟨a2, len2, cap2, rfl⟩ := okWide_slice Try.underlying22 (hval 2 22 v2 rfl rfl)
  obtain ⟨a3, len3, cap3, rfl⟩ := okWide_slice Try.underlying24 (hval 3 24 v3 rfl rfl)
  have k0 := h0
  have k1 := h1
  have k2 := h2
  have k3 := h3
  have lt0 : ∀ x ∈ p0, x.block < W.heap.size := by obtain ⟨m, hm⟩ := k0; exact DataW.trod_lt m _ _ _ hm
  have lt1 : ∀ x ∈ p1, x.block < W.heap.size := by obtain ⟨m, hm⟩ := k1; exact DataW.trod_lt m _ _ _ hm
  have lt2 : ∀ x ∈ p2, x.block < W.heap.size := by obtain ⟨m, hm⟩ := k2; exact DataW.trod_lt m _ _ _ hm
  have lt3 : ∀ x ∈ p3, x.block < W.heap.size := by obtain ⟨m, hm⟩ := k3; exact DataW.trod_lt m _ _ _ hm
  have ofU : ∀ (a : Option Addr) (len cap : Nat) (d : DataW H) (ps : List MemPlace), DataW.Trod enc Try.prog W 0 (fun _ => true) true 22 (.slice a len cap) d ps → ∃ l, Sl .u64 W a len l ∧ U64 l ∧ len ≤ 9223372036854775807 ∧ (a = none → len = 0) := by
    intro a len cap d ps hh
    obtain ⟨fuel, hf⟩ := hh
    rcases open_ints Try.underlying22 Try.underlying25 (by kernel_rfl) hf with ⟨hcs, _⟩ | ⟨x, l, c, zs, hcs, _, hl, hm, hz, _, hcell, hwz⟩
    · simp [Value.cells] at hcs
      obtain ⟨rfl, rfl, rfl⟩ := hcs
      exact ⟨[], ⟨rfl, .inl rfl⟩, fun i => (by simp), by omega, fun _ => rfl⟩
    · simp [Value.cells] at hcs
      obtain ⟨rfl, rfl, rfl⟩ := hcs
      have hz' : zs.length = cap := by simpa using hz
      refine ⟨zs.take len, sl_of hl hz' (fun h => by simp at h) (fun x' hx i hi => by cases hx; exact hcell i (by omega)), u64_of hwz, by unfold maxLen at hm; omega, fun h => by simp at h⟩
  have ofI : ∀ (a : Option Addr) (len cap : Nat) (d : DataW H) (ps : List MemPlace), DataW.Trod enc Try.prog W 0 (fun _ => true) true 24 (.slice a len cap) d ps → ∃ l, Sl .i64 W a len l ∧ len ≤ 9223372036854775807 ∧ (a = none → len = 0) := by
    intro a len cap d ps hh
    obtain ⟨fuel, hf⟩ := hh
    rcases open_ints Try.underlying24 Try.underlying3 (by kernel_rfl) hf with ⟨hcs, _⟩ | ⟨x, l, c, zs, hcs, _, hl, hm, hz, _, hcell, hwz⟩
    · simp [Value.cells] at hcs
      obtain ⟨rfl, rfl, rfl⟩ := hcs
      exact ⟨[], ⟨rfl, .inl rfl⟩, by omega, fun _ => rfl⟩
    · simp [Value.cells] at hcs
      obtain ⟨rfl, rfl, rfl⟩ := hcs
      have hz' : zs.length = cap := by simpa using hz
      refine ⟨zs.take len, sl_of hl hz' (fun h => by simp at h) (fun x' hx i hi => by cases hx; exact hcell i (by omega)), by unfold maxLen at hm; omega, fun h => by simp at h⟩
  have ofII : ∀ (a : Option Addr) (len cap : Nat) (d : DataW H) (ps : List MemPlace), DataW.Trod enc Try.prog W 0 (fun _ => true) true 23 (.slice a len cap) d ps → ∃ l, Sl2 W a len l ∧ len ≤ 9223372036854775807 ∧ (a = none → len = 0) := by
    intro a len cap d ps hh
    obtain ⟨fuel, hf⟩ := hh
    rcases Deep.open_int_rows Try.underlying23 Try.underlying24 Try.underlying3 (by kernel_rfl) (by kernel_rfl) hf with ⟨hcs, _⟩ | ⟨x, l, c, A, L, C, Z, hcs, _, hl, hm, _, hrow⟩
    · simp [Value.cells] at hcs
      obtain ⟨rfl, rfl, rfl⟩ := hcs
      exact ⟨[], ⟨rfl, .inl rfl⟩, by omega, fun _ => rfl⟩
    · simp [Value.cells] at hcs
      obtain ⟨rfl, rfl, rfl⟩ := hcs
      refine ⟨(List.range len).map fun r => (Z r).take (L r), ⟨by simp, ?_⟩, by unfold maxLen at hm; omega, fun h => by simp at h⟩
      by_cases h0 : len = 0
      · exact .inl h0
      · right
        obtain ⟨b, off, sp⟩ := x
        have hsp : sp = none := by simpa [Addr.add] using World.cell?_spot (hrow 0 (by omega)).1
        subst hsp
        refine ⟨b, off, rfl, fun i hi => ?_⟩
        obtain ⟨e1, e2, e3, e4, e5, e6, e7⟩ := hrow i (by omega)
        rw [add_plain] at e1
        refine ⟨A i, L i, C i, e1, e2, e3, e6, ?_⟩
        have hg : ((List.range len).map fun r => (Z r).take (L r)).getD i [] = (Z i).take (L i) := by simp [List.getElem?_range hi]
        rw [hg]
        exact sl_of e2 e4 e6 (fun x' hx j hj => (e7 x' hx).2 j hj)
  obtain ⟨l0, s0, u0, m0, n0⟩ := ofU _ _ _ _ _ h0
  obtain ⟨l1, s1, m1, n1⟩ := ofII _ _ _ _ _ h1
  obtain ⟨l2, s2, u2, m2, n2⟩ := ofU _ _ _ _ _ h2
  obtain ⟨l3, s3, m3, n3⟩ := ofI _ _ _ _ _ h3
  obtain ⟨a4, rfl, rfl, rfl, w4⟩ := open_int Try.underlying25 (hval 4 25 v4 rfl rfl) h4
  obtain ⟨a5, rfl, rfl, rfl, w5⟩ := open_int Try.underlying3 (hval 5 3 v5 rfl rfl) h5
  clear hA0 hval0 ofU ofI ofII
  refine (law_walk l0 l1 l2 l3 a0 a1 a2 a3 len0 len1 len2 len3 cap0 cap1 cap2 cap3 a4 a5 W s0 s1 s2 s3 u0 u2 (bounds_u64 w4) (bounds_i64 w5) m0 m1 m2 m3 n0 n1 n2 n3).mono fun e W' ⟨he, bel⟩ => ?_
  subst he
  exact ⟨_, rfl, _, _, _, [], _, [], hW', trodAll_mk1 (shut_bool Try.underlying4 _), (trodAll_cons_mk (Below.trod laidOut (by kernel_rfl) (of_decide_eq_true (by kernel_rfl)) k0 bel lt0) (trodAll_cons_mk (Below.trod laidOut (by kernel_rfl) (of_decide_eq_true (by kernel_rfl)) k1 bel lt1) (trodAll_cons_mk (Below.trod laidOut (by kernel_rfl) (of_decide_eq_true (by kernel_rfl)) k2 bel lt2) (trodAll_cons_mk (Below.trod laidOut (by kernel_rfl) (of_decide_eq_true (by kernel_rfl)) k3 bel lt3) (trodAll_cons_mk (shut_int Try.underlying25 w4) (trodAll_cons_mk (shut_int Try.underlying3 w5) trodAll_mk0)))))), rfl, bel.frame _, fun h => by cases h⟩

theorem over : Rows.fnOverMatchesPrefixCountModelRow.holds Try.pinned (OpenSpec.ofChange Rows.fnOverMatchesPrefixCountModelSpec) :=
  OpenClaim.holds_of_wide 3 Try.f3 rfl rfl rfl rfl rfl rfl rfl ⟨rfl, rfl, rfl, rfl, rfl⟩ rfl rfl rfl rfl rfl (by kernel_rfl) Try.func3 (by kernel_rfl)
    (of_decide_eq_true (by kernel_rfl)) (by unfold Func.isWrapper; first | (rw [if_pos (by decide +kernel)]; kernel_rfl) | (rw [if_neg (by decide +kernel)]; exact ⟨rfl, rfl⟩))
    (fun os started H enc _ => lifted os started H enc)

/-- THE STATEMENT -/
theorem proved : Rows.FnOverMatchesPrefixCountModelSaid := over
end Go.Proofs.Qxb6600218a.fnOverMatchesPrefixCountModel
