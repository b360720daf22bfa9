import Derived.Test.Qxb6600218aRows
import Derived.WalkKit
import Derived.KernelRfl
namespace Go.Proofs.Qxb6600218a
open Go.RowKit

/-! ### Two great zero values: [16384]uint64 and the struct balancer (16395 cells), never written out -/
def cellsOfZero (t : TypeInfo) : Array Value := match t.zero with
  | some (.agg cs) => cs
  | _ => #[]

/-- A list of n values, of each of which q holds. -/
def allZ (q : Value → Bool) : List Value → Nat → Bool
  | [], 0 => true
  | v :: l, n + 1 => q v && allZ q l n
  | _, _ => false
theorem allZ_get {q : Value → Bool} : ∀ {l : List Value} {n : Nat}, allZ q l n = true → l.length = n ∧ ∀ v ∈ l, q v = true
  | [], 0, _ => ⟨rfl, by simp⟩
  | v :: l, n + 1, h => by
    simp only [allZ, Bool.and_eq_true] at h
    obtain ⟨h1, h2⟩ := allZ_get h.2
    refine ⟨by simp [h1], ?_⟩
    intro u hu
    rcases List.mem_cons.1 hu with rfl | hu
    · exact h.1
    · exact h2 u hu
  | [], n + 1, h => by simp [allZ] at h
  | v :: l, 0, h => by simp [allZ] at h
def isU0 : Value → Bool
  | .int .u64 n => n == 0
  | _ => false
theorem all53 : allZ isU0 (cellsOfZero Try.t53).toList 16384 = true := by kernel_rfl
theorem zero53 (w : World) : (zeroValue 53).run Try.prog w = .ok (.agg (cellsOfZero Try.t53)) w := by kernel_rfl
end Go.Proofs.Qxb6600218a
