/-
  No cell of these rows narrows 'for every input' (looked for: loops, veiled, ifaces, maps, wideKeys, modest, calm, conditions, laid).
  DERIVED. THE GIVEN ROWS OF THIS SEAT. 5 by the template 'for every input the law returns true; each argument reads behind the call as it read before'; 0 by the template 'total and deterministic' (their statements: Qxb6600361aTotals.lean).
  GIVEN WITH THE SEED: the statements are not yours to turn. If you find one false, say at which input.
  Laid BY PROGRAM, IN A SANDBOX (cutbox-rows.mjs): the forced cells as the released guide's own fill.sh prints them over the translation 1b5bbec60a199233… (all of the seat's roots in one cut). By AI agents, Wed Nov 11 2026. No macro, syntax, notation, axiom, sorry.
-/
import Derived.Test.Qxb6600361aChecked
import GoSem.Claim
import GoSem.ClaimJoined
import GoSem.ClaimMapViews
import Derived.JoinedTies
import Derived.KernelRfl
namespace Go.Proofs.Qxb6600361a
/- THE CELL 'sum', in the pinned program and in every row, IS THE sha256 OF THE DUMP (.gsa) THAT Qxb6600361aProg.lean LOADS. Nothing in Lean hashes anything: it is a label: what it is worth is what the hold of that sum in a sandbox is worth. -/
noncomputable def Try.pinned : Pinned := { name := "qxb6600361a", sum := "1b5bbec60a1992334fb7dbc9c3e212e165760d145c30d5d196f70bc815c8fb6d", checked := Try.checked }
namespace Rows
def none {H : Type} : Left H := { results := [], args := [] }

/-- 'zzlaws_internal_jsonfield_b1.FnSkipEscapeReadsAtMostSixBytes': WHATEVER THE INPUT: true; the input reads as it did. -/
def fnSkipEscapeReadsAtMostSixBytesSpec : ChangeSpec := { name := "fnSkipEscapeReadsAtMostSixBytes", fn := fun _ => fun
  | [d1, d2, d3] => { results := [.lit (.bool true)], args := [d1, d2, d3] }
  | _ => none }
def fnSkipEscapeReadsAtMostSixBytesRow : OpenClaim := { program := "qxb6600361a", sum := "1b5bbec60a1992334fb7dbc9c3e212e165760d145c30d5d196f70bc815c8fb6d", func := "example.com/ample-transport/ample-transport/zzlaws_internal_jsonfield_b1.FnSkipEscapeReadsAtMostSixBytes", spec := "fnSkipEscapeReadsAtMostSixBytes", apart := false }
def FnSkipEscapeReadsAtMostSixBytesSaid : Prop := fnSkipEscapeReadsAtMostSixBytesRow.holds Try.pinned (OpenSpec.ofChange fnSkipEscapeReadsAtMostSixBytesSpec)

/-- ITS FALSE NEIGHBOUR: 'it returns false'. Refute it at one input. -/
def fnSkipEscapeReadsAtMostSixBytesWrong : ChangeSpec := { name := "fnSkipEscapeReadsAtMostSixBytes", fn := fun _ => fun
  | [d1, d2, d3] => { results := [.lit (.bool false)], args := [d1, d2, d3] }
  | _ => none }
def FnSkipEscapeReadsAtMostSixBytesWrongFalsely : Prop := fnSkipEscapeReadsAtMostSixBytesRow.holds Try.pinned (OpenSpec.ofChange fnSkipEscapeReadsAtMostSixBytesWrong)

/-- 'zzlaws_internal_jsonfield_b1.FnSkipNumberMatchesModel': WHATEVER THE INPUT: true; the input reads as it did. -/
def fnSkipNumberMatchesModelSpec : ChangeSpec := { name := "fnSkipNumberMatchesModel", fn := fun _ => fun
  | [d1, d2, d3] => { results := [.lit (.bool true)], args := [d1, d2, d3] }
  | _ => none }
def fnSkipNumberMatchesModelRow : OpenClaim := { program := "qxb6600361a", sum := "1b5bbec60a1992334fb7dbc9c3e212e165760d145c30d5d196f70bc815c8fb6d", func := "example.com/ample-transport/ample-transport/zzlaws_internal_jsonfield_b1.FnSkipNumberMatchesModel", spec := "fnSkipNumberMatchesModel", apart := false }
def FnSkipNumberMatchesModelSaid : Prop := fnSkipNumberMatchesModelRow.holds Try.pinned (OpenSpec.ofChange fnSkipNumberMatchesModelSpec)

/-- ITS FALSE NEIGHBOUR: 'it returns false'. Refute it at one input. -/
def fnSkipNumberMatchesModelWrong : ChangeSpec := { name := "fnSkipNumberMatchesModel", fn := fun _ => fun
  | [d1, d2, d3] => { results := [.lit (.bool false)], args := [d1, d2, d3] }
  | _ => none }
def FnSkipNumberMatchesModelWrongFalsely : Prop := fnSkipNumberMatchesModelRow.holds Try.pinned (OpenSpec.ofChange fnSkipNumberMatchesModelWrong)

/-- 'zzlaws_internal_jsonfield_b1.FnMemberNameMatchesModel': WHATEVER THE INPUT: true; the input reads as it did. -/
def fnMemberNameMatchesModelSpec : ChangeSpec := { name := "fnMemberNameMatchesModel", fn := fun _ => fun
  | [d1, d2, d3, d4] => { results := [.lit (.bool true)], args := [d1, d2, d3, d4] }
  | _ => none }
def fnMemberNameMatchesModelRow : OpenClaim := { program := "qxb6600361a", sum := "1b5bbec60a1992334fb7dbc9c3e212e165760d145c30d5d196f70bc815c8fb6d", func := "example.com/ample-transport/ample-transport/zzlaws_internal_jsonfield_b1.FnMemberNameMatchesModel", spec := "fnMemberNameMatchesModel", apart := false }
def FnMemberNameMatchesModelSaid : Prop := fnMemberNameMatchesModelRow.holds Try.pinned (OpenSpec.ofChange fnMemberNameMatchesModelSpec)

/-- ITS FALSE NEIGHBOUR: 'it returns false'. Refute it at one input. -/
def fnMemberNameMatchesModelWrong : ChangeSpec := { name := "fnMemberNameMatchesModel", fn := fun _ => fun
  | [d1, d2, d3, d4] => { results := [.lit (.bool false)], args := [d1, d2, d3, d4] }
  | _ => none }
def FnMemberNameMatchesModelWrongFalsely : Prop := fnMemberNameMatchesModelRow.holds Try.pinned (OpenSpec.ofChange fnMemberNameMatchesModelWrong)

/-- 'zzlaws_internal_jsonfield_b1.FnSkipNumberReadsWholeBuiltNumber': WHATEVER THE INPUT: true; the input reads as it did. -/
def fnSkipNumberReadsWholeBuiltNumberSpec : ChangeSpec := { name := "fnSkipNumberReadsWholeBuiltNumber", fn := fun _ => fun
  | [d1, d2, d3, d4, d5, d6, d7, d8, d9, d10, d11, d12] => { results := [.lit (.bool true)], args := [d1, d2, d3, d4, d5, d6, d7, d8, d9, d10, d11, d12] }
  | _ => none }
def fnSkipNumberReadsWholeBuiltNumberRow : OpenClaim := { program := "qxb6600361a", sum := "1b5bbec60a1992334fb7dbc9c3e212e165760d145c30d5d196f70bc815c8fb6d", func := "example.com/ample-transport/ample-transport/zzlaws_internal_jsonfield_b1.FnSkipNumberReadsWholeBuiltNumber", spec := "fnSkipNumberReadsWholeBuiltNumber", apart := false }
def FnSkipNumberReadsWholeBuiltNumberSaid : Prop := fnSkipNumberReadsWholeBuiltNumberRow.holds Try.pinned (OpenSpec.ofChange fnSkipNumberReadsWholeBuiltNumberSpec)

/-- ITS FALSE NEIGHBOUR: 'it returns false'. Refute it at one input. -/
def fnSkipNumberReadsWholeBuiltNumberWrong : ChangeSpec := { name := "fnSkipNumberReadsWholeBuiltNumber", fn := fun _ => fun
  | [d1, d2, d3, d4, d5, d6, d7, d8, d9, d10, d11, d12] => { results := [.lit (.bool false)], args := [d1, d2, d3, d4, d5, d6, d7, d8, d9, d10, d11, d12] }
  | _ => none }
def FnSkipNumberReadsWholeBuiltNumberWrongFalsely : Prop := fnSkipNumberReadsWholeBuiltNumberRow.holds Try.pinned (OpenSpec.ofChange fnSkipNumberReadsWholeBuiltNumberWrong)

/-- 'zzlaws_internal_jsonfield_b1.FnMemberNameReadsBuiltObject': WHATEVER THE INPUT: true; the input reads as it did. -/
def fnMemberNameReadsBuiltObjectSpec : ChangeSpec := { name := "fnMemberNameReadsBuiltObject", fn := fun _ => fun
  | [d1, d2, d3] => { results := [.lit (.bool true)], args := [d1, d2, d3] }
  | _ => none }
def fnMemberNameReadsBuiltObjectRow : OpenClaim := { program := "qxb6600361a", sum := "1b5bbec60a1992334fb7dbc9c3e212e165760d145c30d5d196f70bc815c8fb6d", func := "example.com/ample-transport/ample-transport/zzlaws_internal_jsonfield_b1.FnMemberNameReadsBuiltObject", spec := "fnMemberNameReadsBuiltObject", apart := false }
def FnMemberNameReadsBuiltObjectSaid : Prop := fnMemberNameReadsBuiltObjectRow.holds Try.pinned (OpenSpec.ofChange fnMemberNameReadsBuiltObjectSpec)

/-- ITS FALSE NEIGHBOUR: 'it returns false'. Refute it at one input. -/
def fnMemberNameReadsBuiltObjectWrong : ChangeSpec := { name := "fnMemberNameReadsBuiltObject", fn := fun _ => fun
  | [d1, d2, d3] => { results := [.lit (.bool false)], args := [d1, d2, d3] }
  | _ => none }
def FnMemberNameReadsBuiltObjectWrongFalsely : Prop := fnMemberNameReadsBuiltObjectRow.holds Try.pinned (OpenSpec.ofChange fnMemberNameReadsBuiltObjectWrong)

end Rows
end Go.Proofs.Qxb6600361a
