/-
  No cell of these rows narrows 'for every input' (looked for: loops, veiled, ifaces, maps, wideKeys, modest, calm, conditions, laid).
  DERIVED. THE GIVEN ROWS OF THIS SEAT. 4 by the template 'for every input the law returns true; each argument reads behind the call as it read before'; 0 by the template 'total and deterministic' (their statements: Qxb6001681aTotals.lean).
  GIVEN WITH THE SEED: the statements are not yours to turn. If you find one false, say at which input.
  Laid BY PROGRAM, IN A SANDBOX (cutbox-rows.mjs): the forced cells as the released guide's own fill.sh prints them over the translation b84adecdce05c385… (all of the seat's roots in one cut). By AI agents, Wed Nov 11 2026. No macro, syntax, notation, axiom, sorry.
-/
import Derived.Test.Qxb6001681aChecked
import GoSem.Claim
import GoSem.ClaimJoined
import GoSem.ClaimMapViews
import Derived.JoinedTies
import Derived.KernelRfl
namespace Go.Proofs.Qxb6001681a
/- THE CELL 'sum', in the pinned program and in every row, IS THE sha256 OF THE DUMP (.gsa) THAT Qxb6001681aProg.lean LOADS. Nothing in Lean hashes anything: it is a label: what it is worth is what the hold of that sum in a sandbox is worth. -/
noncomputable def Try.pinned : Pinned := { name := "qxb6001681a", sum := "b84adecdce05c385a622568cfb611160d12155a136bb868f547586df30ad49ee", checked := Try.checked }
namespace Rows
def none {H : Type} : Left H := { results := [], args := [] }

/-- 'zzlaws_internal_diag_g1.FnLocatorAgreesWithCount': WHATEVER THE INPUT: true; the input reads as it did. -/
def fnLocatorAgreesWithCountSpec : ChangeSpec := { name := "fnLocatorAgreesWithCount", fn := fun _ => fun
  | [d1, d2, d3, d4] => { results := [.lit (.bool true)], args := [d1, d2, d3, d4] }
  | _ => none }
def fnLocatorAgreesWithCountRow : OpenClaim := { program := "qxb6001681a", sum := "b84adecdce05c385a622568cfb611160d12155a136bb868f547586df30ad49ee", func := "example.com/gnotation/gnotation/zzlaws_internal_diag_g1.FnLocatorAgreesWithCount", spec := "fnLocatorAgreesWithCount", inPlace := ["internal/bytealg.CountString", "internal/bytealg.IndexByteString", "internal/bytealg.IndexString"], named := ["internal/bytealg.MaxLen"], apart := false }
def FnLocatorAgreesWithCountSaid : Prop := fnLocatorAgreesWithCountRow.holds Try.pinned (OpenSpec.ofChange fnLocatorAgreesWithCountSpec)

/-- ITS FALSE NEIGHBOUR: 'it returns false'. Refute it at one input. -/
def fnLocatorAgreesWithCountWrong : ChangeSpec := { name := "fnLocatorAgreesWithCount", fn := fun _ => fun
  | [d1, d2, d3, d4] => { results := [.lit (.bool false)], args := [d1, d2, d3, d4] }
  | _ => none }
def FnLocatorAgreesWithCountWrongFalsely : Prop := fnLocatorAgreesWithCountRow.holds Try.pinned (OpenSpec.ofChange fnLocatorAgreesWithCountWrong)

/-- 'zzlaws_internal_diag_g1.FnLineStartIsLocatedAtColumnOne': WHATEVER THE INPUT: true; the input reads as it did. -/
def fnLineStartIsLocatedAtColumnOneSpec : ChangeSpec := { name := "fnLineStartIsLocatedAtColumnOne", fn := fun _ => fun
  | [d1, d2] => { results := [.lit (.bool true)], args := [d1, d2] }
  | _ => none }
def fnLineStartIsLocatedAtColumnOneRow : OpenClaim := { program := "qxb6001681a", sum := "b84adecdce05c385a622568cfb611160d12155a136bb868f547586df30ad49ee", func := "example.com/gnotation/gnotation/zzlaws_internal_diag_g1.FnLineStartIsLocatedAtColumnOne", spec := "fnLineStartIsLocatedAtColumnOne", inPlace := ["internal/bytealg.IndexByteString", "internal/bytealg.CountString", "internal/bytealg.IndexString"], named := ["internal/bytealg.MaxLen"], apart := false }
def FnLineStartIsLocatedAtColumnOneSaid : Prop := fnLineStartIsLocatedAtColumnOneRow.holds Try.pinned (OpenSpec.ofChange fnLineStartIsLocatedAtColumnOneSpec)

/-- ITS FALSE NEIGHBOUR: 'it returns false'. Refute it at one input. -/
def fnLineStartIsLocatedAtColumnOneWrong : ChangeSpec := { name := "fnLineStartIsLocatedAtColumnOne", fn := fun _ => fun
  | [d1, d2] => { results := [.lit (.bool false)], args := [d1, d2] }
  | _ => none }
def FnLineStartIsLocatedAtColumnOneWrongFalsely : Prop := fnLineStartIsLocatedAtColumnOneRow.holds Try.pinned (OpenSpec.ofChange fnLineStartIsLocatedAtColumnOneWrong)

/-- 'zzlaws_internal_diag_g1.FnEditsIsCappedOSADistance': WHATEVER THE INPUT: true; the input reads as it did. -/
def fnEditsIsCappedOSADistanceSpec : ChangeSpec := { name := "fnEditsIsCappedOSADistance", fn := fun _ => fun
  | [d1, d2, d3] => { results := [.lit (.bool true)], args := [d1, d2, d3] }
  | _ => none }
def fnEditsIsCappedOSADistanceRow : OpenClaim := { program := "qxb6001681a", sum := "b84adecdce05c385a622568cfb611160d12155a136bb868f547586df30ad49ee", func := "example.com/gnotation/gnotation/zzlaws_internal_diag_g1.FnEditsIsCappedOSADistance", spec := "fnEditsIsCappedOSADistance", unfollowed := true, recurses := true, apart := false }
def FnEditsIsCappedOSADistanceSaid : Prop := fnEditsIsCappedOSADistanceRow.holds Try.pinned (OpenSpec.ofChange fnEditsIsCappedOSADistanceSpec)

/-- ITS FALSE NEIGHBOUR: 'it returns false'. Refute it at one input. -/
def fnEditsIsCappedOSADistanceWrong : ChangeSpec := { name := "fnEditsIsCappedOSADistance", fn := fun _ => fun
  | [d1, d2, d3] => { results := [.lit (.bool false)], args := [d1, d2, d3] }
  | _ => none }
def FnEditsIsCappedOSADistanceWrongFalsely : Prop := fnEditsIsCappedOSADistanceRow.holds Try.pinned (OpenSpec.ofChange fnEditsIsCappedOSADistanceWrong)

/-- 'zzlaws_internal_growing_g1.FnIndexPutReportsTheBytesItHolds': WHATEVER THE INPUT: true; the input reads as it did. -/
def fnIndexPutReportsTheBytesItHoldsSpec : ChangeSpec := { name := "fnIndexPutReportsTheBytesItHolds", fn := fun _ => fun
  | [d] => { results := [.lit (.bool true)], args := [d] }
  | _ => none }
def fnIndexPutReportsTheBytesItHoldsRow : OpenClaim := { program := "qxb6001681a", sum := "b84adecdce05c385a622568cfb611160d12155a136bb868f547586df30ad49ee", func := "example.com/gnotation/gnotation/zzlaws_internal_growing_g1.FnIndexPutReportsTheBytesItHolds", spec := "fnIndexPutReportsTheBytesItHolds", apart := false }
def FnIndexPutReportsTheBytesItHoldsSaid : Prop := fnIndexPutReportsTheBytesItHoldsRow.holds Try.pinned (OpenSpec.ofChange fnIndexPutReportsTheBytesItHoldsSpec)

/-- ITS FALSE NEIGHBOUR: 'it returns false'. Refute it at one input. -/
def fnIndexPutReportsTheBytesItHoldsWrong : ChangeSpec := { name := "fnIndexPutReportsTheBytesItHolds", fn := fun _ => fun
  | [d] => { results := [.lit (.bool false)], args := [d] }
  | _ => none }
def FnIndexPutReportsTheBytesItHoldsWrongFalsely : Prop := fnIndexPutReportsTheBytesItHoldsRow.holds Try.pinned (OpenSpec.ofChange fnIndexPutReportsTheBytesItHoldsWrong)

end Rows
end Go.Proofs.Qxb6001681a
