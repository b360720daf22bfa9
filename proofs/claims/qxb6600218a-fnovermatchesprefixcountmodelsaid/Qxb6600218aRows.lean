/-
  No cell of these rows narrows 'for every input' (looked for: loops, veiled, ifaces, maps, wideKeys, modest, calm, conditions, laid).
  DERIVED. THE GIVEN ROWS OF THIS SEAT. 2 by the template 'for every input the law returns true; each argument reads behind the call as it read before'; 0 by the template 'total and deterministic' (their statements: Qxb6600218aTotals.lean).
  GIVEN WITH THE SEED: the statements are not yours to turn. If you find one false, say at which input.
  Laid BY PROGRAM, IN A SANDBOX (cutbox-rows.mjs): the forced cells as the released guide's own fill.sh prints them over the translation 48fbc4fc8d121f18… (all of the seat's roots in one cut). By AI agents, Wed Nov 11 2026. No macro, syntax, notation, axiom, sorry.
-/
import Derived.Test.Qxb6600218aChecked
import GoSem.Claim
import GoSem.ClaimJoined
import GoSem.ClaimMapViews
import Derived.JoinedTies
import Derived.KernelRfl
namespace Go.Proofs.Qxb6600218a
/- THE CELL 'sum', in the pinned program and in every row, IS THE sha256 OF THE DUMP (.gsa) THAT Qxb6600218aProg.lean LOADS. Nothing in Lean hashes anything: it is a label: what it is worth is what the hold of that sum in a sandbox is worth. -/
noncomputable def Try.pinned : Pinned := { name := "qxb6600218a", sum := "48fbc4fc8d121f1870ace6517d64630ae487c0cc307b09081db3fb1b5f986fbf", checked := Try.checked }
namespace Rows
def none {H : Type} : Left H := { results := [], args := [] }

/-- 'zzlaws_planner_b1.FnOverMatchesPrefixCountModel': WHATEVER THE INPUT: true; the input reads as it did. -/
def fnOverMatchesPrefixCountModelSpec : ChangeSpec := { name := "fnOverMatchesPrefixCountModel", fn := fun _ => fun
  | [d1, d2, d3, d4, d5, d6] => { results := [.lit (.bool true)], args := [d1, d2, d3, d4, d5, d6] }
  | _ => none }
def fnOverMatchesPrefixCountModelRow : OpenClaim := { program := "qxb6600218a", sum := "48fbc4fc8d121f1870ace6517d64630ae487c0cc307b09081db3fb1b5f986fbf", func := "example.com/caowei/caowei/zzlaws_planner_b1.FnOverMatchesPrefixCountModel", spec := "fnOverMatchesPrefixCountModel", apart := false }
def FnOverMatchesPrefixCountModelSaid : Prop := fnOverMatchesPrefixCountModelRow.holds Try.pinned (OpenSpec.ofChange fnOverMatchesPrefixCountModelSpec)

/-- ITS FALSE NEIGHBOUR: 'it returns false'. Refute it at one input. -/
def fnOverMatchesPrefixCountModelWrong : ChangeSpec := { name := "fnOverMatchesPrefixCountModel", fn := fun _ => fun
  | [d1, d2, d3, d4, d5, d6] => { results := [.lit (.bool false)], args := [d1, d2, d3, d4, d5, d6] }
  | _ => none }
def FnOverMatchesPrefixCountModelWrongFalsely : Prop := fnOverMatchesPrefixCountModelRow.holds Try.pinned (OpenSpec.ofChange fnOverMatchesPrefixCountModelWrong)

/-- 'zzlaws_planner_b1.FnOverDepthCutoffKeepsAnswersWithinIt': WHATEVER THE INPUT: true; the input reads as it did. -/
def fnOverDepthCutoffKeepsAnswersWithinItSpec : ChangeSpec := { name := "fnOverDepthCutoffKeepsAnswersWithinIt", fn := fun _ => fun
  | [d1, d2, d3, d4, d5, d6, d7] => { results := [.lit (.bool true)], args := [d1, d2, d3, d4, d5, d6, d7] }
  | _ => none }
def fnOverDepthCutoffKeepsAnswersWithinItRow : OpenClaim := { program := "qxb6600218a", sum := "48fbc4fc8d121f1870ace6517d64630ae487c0cc307b09081db3fb1b5f986fbf", func := "example.com/caowei/caowei/zzlaws_planner_b1.FnOverDepthCutoffKeepsAnswersWithinIt", spec := "fnOverDepthCutoffKeepsAnswersWithinIt", apart := false }
def FnOverDepthCutoffKeepsAnswersWithinItSaid : Prop := fnOverDepthCutoffKeepsAnswersWithinItRow.holds Try.pinned (OpenSpec.ofChange fnOverDepthCutoffKeepsAnswersWithinItSpec)

/-- ITS FALSE NEIGHBOUR: 'it returns false'. Refute it at one input. -/
def fnOverDepthCutoffKeepsAnswersWithinItWrong : ChangeSpec := { name := "fnOverDepthCutoffKeepsAnswersWithinIt", fn := fun _ => fun
  | [d1, d2, d3, d4, d5, d6, d7] => { results := [.lit (.bool false)], args := [d1, d2, d3, d4, d5, d6, d7] }
  | _ => none }
def FnOverDepthCutoffKeepsAnswersWithinItWrongFalsely : Prop := fnOverDepthCutoffKeepsAnswersWithinItRow.holds Try.pinned (OpenSpec.ofChange fnOverDepthCutoffKeepsAnswersWithinItWrong)

end Rows
end Go.Proofs.Qxb6600218a
