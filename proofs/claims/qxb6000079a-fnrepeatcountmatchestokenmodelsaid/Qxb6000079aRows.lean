/-
  No cell of these rows narrows 'for every input' (looked for: loops, veiled, ifaces, maps, wideKeys, modest, calm, conditions, laid).
  DERIVED. THE GIVEN ROWS OF THIS SEAT. 4 by the template 'for every input the law returns true; each argument reads behind the call as it read before'; 0 by the template 'total and deterministic' (their statements: Qxb6000079aTotals.lean).
  GIVEN WITH THE SEED: the statements are not yours to turn. If you find one false, say at which input.
  Laid BY PROGRAM, IN A SANDBOX (cutbox-rows.mjs): the forced cells as the released guide's own fill.sh prints them over the translation 52277aa91f80784f… (all of the seat's roots in one cut). By AI agents, Wed Nov 11 2026. No macro, syntax, notation, axiom, sorry.
-/
import Derived.Test.Qxb6000079aChecked
import GoSem.Claim
import GoSem.ClaimJoined
import GoSem.ClaimMapViews
import Derived.JoinedTies
import Derived.KernelRfl
namespace Go.Proofs.Qxb6000079a
/- THE CELL 'sum', in the pinned program and in every row, IS THE sha256 OF THE DUMP (.gsa) THAT Qxb6000079aProg.lean LOADS. Nothing in Lean hashes anything: it is a label: what it is worth is what the hold of that sum in a sandbox is worth. -/
noncomputable def Try.pinned : Pinned := { name := "qxb6000079a", sum := "52277aa91f80784f7d139cfba7d241ffae8137ae4fd8cc988eada47b5192d2dd", checked := Try.checked }
namespace Rows
def none {H : Type} : Left H := { results := [], args := [] }

/-- 'zzlaws_root_b1.FnRepeatCountMatchesTokenModel': WHATEVER THE INPUT: true; the input reads as it did. -/
def fnRepeatCountMatchesTokenModelSpec : ChangeSpec := { name := "fnRepeatCountMatchesTokenModel", fn := fun _ => fun
  | [d] => { results := [.lit (.bool true)], args := [d] }
  | _ => none }
def fnRepeatCountMatchesTokenModelRow : OpenClaim := { program := "qxb6000079a", sum := "52277aa91f80784f7d139cfba7d241ffae8137ae4fd8cc988eada47b5192d2dd", func := "example.com/bowerbird/bowerbird/zzlaws_root_b1.FnRepeatCountMatchesTokenModel", spec := "fnRepeatCountMatchesTokenModel", unfollowed := true, recurses := true, apart := false }
def FnRepeatCountMatchesTokenModelSaid : Prop := fnRepeatCountMatchesTokenModelRow.holds Try.pinned (OpenSpec.ofChange fnRepeatCountMatchesTokenModelSpec)

/-- ITS FALSE NEIGHBOUR: 'it returns false'. Refute it at one input. -/
def fnRepeatCountMatchesTokenModelWrong : ChangeSpec := { name := "fnRepeatCountMatchesTokenModel", fn := fun _ => fun
  | [d] => { results := [.lit (.bool false)], args := [d] }
  | _ => none }
def FnRepeatCountMatchesTokenModelWrongFalsely : Prop := fnRepeatCountMatchesTokenModelRow.holds Try.pinned (OpenSpec.ofChange fnRepeatCountMatchesTokenModelWrong)

/-- 'zzlaws_root_b1.FnRepeatCountReadsOnlyItsCount': WHATEVER THE INPUT: true; the input reads as it did. -/
def fnRepeatCountReadsOnlyItsCountSpec : ChangeSpec := { name := "fnRepeatCountReadsOnlyItsCount", fn := fun _ => fun
  | [d1, d2] => { results := [.lit (.bool true)], args := [d1, d2] }
  | _ => none }
def fnRepeatCountReadsOnlyItsCountRow : OpenClaim := { program := "qxb6000079a", sum := "52277aa91f80784f7d139cfba7d241ffae8137ae4fd8cc988eada47b5192d2dd", func := "example.com/bowerbird/bowerbird/zzlaws_root_b1.FnRepeatCountReadsOnlyItsCount", spec := "fnRepeatCountReadsOnlyItsCount", unfollowed := true, recurses := true, apart := false }
def FnRepeatCountReadsOnlyItsCountSaid : Prop := fnRepeatCountReadsOnlyItsCountRow.holds Try.pinned (OpenSpec.ofChange fnRepeatCountReadsOnlyItsCountSpec)

/-- ITS FALSE NEIGHBOUR: 'it returns false'. Refute it at one input. -/
def fnRepeatCountReadsOnlyItsCountWrong : ChangeSpec := { name := "fnRepeatCountReadsOnlyItsCount", fn := fun _ => fun
  | [d1, d2] => { results := [.lit (.bool false)], args := [d1, d2] }
  | _ => none }
def FnRepeatCountReadsOnlyItsCountWrongFalsely : Prop := fnRepeatCountReadsOnlyItsCountRow.holds Try.pinned (OpenSpec.ofChange fnRepeatCountReadsOnlyItsCountWrong)

/-- 'zzlaws_root_b1.FnRepeatRefusalAndProgress': WHATEVER THE INPUT: true; the input reads as it did. -/
def fnRepeatRefusalAndProgressSpec : ChangeSpec := { name := "fnRepeatRefusalAndProgress", fn := fun _ => fun
  | [d1, d2, d3, d4] => { results := [.lit (.bool true)], args := [d1, d2, d3, d4] }
  | _ => none }
def fnRepeatRefusalAndProgressRow : OpenClaim := { program := "qxb6000079a", sum := "52277aa91f80784f7d139cfba7d241ffae8137ae4fd8cc988eada47b5192d2dd", func := "example.com/bowerbird/bowerbird/zzlaws_root_b1.FnRepeatRefusalAndProgress", spec := "fnRepeatRefusalAndProgress", unfollowed := true, recurses := true, apart := false }
def FnRepeatRefusalAndProgressSaid : Prop := fnRepeatRefusalAndProgressRow.holds Try.pinned (OpenSpec.ofChange fnRepeatRefusalAndProgressSpec)

/-- ITS FALSE NEIGHBOUR: 'it returns false'. Refute it at one input. -/
def fnRepeatRefusalAndProgressWrong : ChangeSpec := { name := "fnRepeatRefusalAndProgress", fn := fun _ => fun
  | [d1, d2, d3, d4] => { results := [.lit (.bool false)], args := [d1, d2, d3, d4] }
  | _ => none }
def FnRepeatRefusalAndProgressWrongFalsely : Prop := fnRepeatRefusalAndProgressRow.holds Try.pinned (OpenSpec.ofChange fnRepeatRefusalAndProgressWrong)

/-- 'zzlaws_root_b1.FnRepeatShiftInvariant': WHATEVER THE INPUT: true; the input reads as it did. -/
def fnRepeatShiftInvariantSpec : ChangeSpec := { name := "fnRepeatShiftInvariant", fn := fun _ => fun
  | [d1, d2, d3, d4] => { results := [.lit (.bool true)], args := [d1, d2, d3, d4] }
  | _ => none }
def fnRepeatShiftInvariantRow : OpenClaim := { program := "qxb6000079a", sum := "52277aa91f80784f7d139cfba7d241ffae8137ae4fd8cc988eada47b5192d2dd", func := "example.com/bowerbird/bowerbird/zzlaws_root_b1.FnRepeatShiftInvariant", spec := "fnRepeatShiftInvariant", unfollowed := true, recurses := true, apart := false }
def FnRepeatShiftInvariantSaid : Prop := fnRepeatShiftInvariantRow.holds Try.pinned (OpenSpec.ofChange fnRepeatShiftInvariantSpec)

/-- ITS FALSE NEIGHBOUR: 'it returns false'. Refute it at one input. -/
def fnRepeatShiftInvariantWrong : ChangeSpec := { name := "fnRepeatShiftInvariant", fn := fun _ => fun
  | [d1, d2, d3, d4] => { results := [.lit (.bool false)], args := [d1, d2, d3, d4] }
  | _ => none }
def FnRepeatShiftInvariantWrongFalsely : Prop := fnRepeatShiftInvariantRow.holds Try.pinned (OpenSpec.ofChange fnRepeatShiftInvariantWrong)

end Rows
end Go.Proofs.Qxb6000079a
