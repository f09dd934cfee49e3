/-
  No cell of these rows narrows 'for every input' (looked for: loops, veiled, ifaces, maps, wideKeys, modest, calm, conditions, laid).
  DERIVED. THE GIVEN ROWS OF THIS SEAT. 5 by the template 'for every input the law returns true; each argument reads behind the call as it read before'; 0 by the template 'total and deterministic' (their statements: Qxb6600655aTotals.lean).
  GIVEN WITH THE SEED: the statements are not yours to turn. If you find one false, say at which input.
  Laid BY PROGRAM, IN A SANDBOX (cutbox-rows.mjs): the forced cells as the released guide's own fill.sh prints them over the translation 47adf572db42263b… (all of the seat's roots in one cut). By AI agents, Wed Nov 11 2026. No macro, syntax, notation, axiom, sorry.
-/
import Derived.Test.Qxb6600655aChecked
import GoSem.Claim
import GoSem.ClaimJoined
import GoSem.ClaimMapViews
import Derived.JoinedTies
import Derived.KernelRfl
namespace Go.Proofs.Qxb6600655a
/- THE CELL 'sum', in the pinned program and in every row, IS THE sha256 OF THE DUMP (.gsa) THAT Qxb6600655aProg.lean LOADS. Nothing in Lean hashes anything: it is a label: what it is worth is what the hold of that sum in a sandbox is worth. -/
noncomputable def Try.pinned : Pinned := { name := "qxb6600655a", sum := "47adf572db42263b10fad76f9c2ccfed4d212a464804fd07ca449ee13b975bc6", checked := Try.checked }
namespace Rows
def none {H : Type} : Left H := { results := [], args := [] }

/-- 'zzlaws_internal_pcap_b1.FnPow10Table': WHATEVER THE INPUT: true; the input reads as it did. -/
def fnPow10TableSpec : ChangeSpec := { name := "fnPow10Table", fn := fun _ => fun
  | [d] => { results := [.lit (.bool true)], args := [d] }
  | _ => none }
def fnPow10TableRow : OpenClaim := { program := "qxb6600655a", sum := "47adf572db42263b10fad76f9c2ccfed4d212a464804fd07ca449ee13b975bc6", func := "example.com/spillway/spillway/zzlaws_internal_pcap_b1.FnPow10Table", spec := "fnPow10Table", apart := false }
def FnPow10TableSaid : Prop := fnPow10TableRow.holds Try.pinned (OpenSpec.ofChange fnPow10TableSpec)

/-- ITS FALSE NEIGHBOUR: 'it returns false'. Refute it at one input. -/
def fnPow10TableWrong : ChangeSpec := { name := "fnPow10Table", fn := fun _ => fun
  | [d] => { results := [.lit (.bool false)], args := [d] }
  | _ => none }
def FnPow10TableWrongFalsely : Prop := fnPow10TableRow.holds Try.pinned (OpenSpec.ofChange fnPow10TableWrong)

/-- 'zzlaws_internal_pcap_b1.FnPow10AddsExponents': WHATEVER THE INPUT: true; the input reads as it did. -/
def fnPow10AddsExponentsSpec : ChangeSpec := { name := "fnPow10AddsExponents", fn := fun _ => fun
  | [d1, d2] => { results := [.lit (.bool true)], args := [d1, d2] }
  | _ => none }
def fnPow10AddsExponentsRow : OpenClaim := { program := "qxb6600655a", sum := "47adf572db42263b10fad76f9c2ccfed4d212a464804fd07ca449ee13b975bc6", func := "example.com/spillway/spillway/zzlaws_internal_pcap_b1.FnPow10AddsExponents", spec := "fnPow10AddsExponents", apart := false }
def FnPow10AddsExponentsSaid : Prop := fnPow10AddsExponentsRow.holds Try.pinned (OpenSpec.ofChange fnPow10AddsExponentsSpec)

/-- ITS FALSE NEIGHBOUR: 'it returns false'. Refute it at one input. -/
def fnPow10AddsExponentsWrong : ChangeSpec := { name := "fnPow10AddsExponents", fn := fun _ => fun
  | [d1, d2] => { results := [.lit (.bool false)], args := [d1, d2] }
  | _ => none }
def FnPow10AddsExponentsWrongFalsely : Prop := fnPow10AddsExponentsRow.holds Try.pinned (OpenSpec.ofChange fnPow10AddsExponentsWrong)

/-- 'zzlaws_internal_pcap_b1.FnUnitTable': WHATEVER THE INPUT: true; the input reads as it did. -/
def fnUnitTableSpec : ChangeSpec := { name := "fnUnitTable", fn := fun _ => fun
  | [d1, d2, d3, d4, d5] => { results := [.lit (.bool true)], args := [d1, d2, d3, d4, d5] }
  | _ => none }
def fnUnitTableRow : OpenClaim := { program := "qxb6600655a", sum := "47adf572db42263b10fad76f9c2ccfed4d212a464804fd07ca449ee13b975bc6", func := "example.com/spillway/spillway/zzlaws_internal_pcap_b1.FnUnitTable", spec := "fnUnitTable", apart := false }
def FnUnitTableSaid : Prop := fnUnitTableRow.holds Try.pinned (OpenSpec.ofChange fnUnitTableSpec)

/-- ITS FALSE NEIGHBOUR: 'it returns false'. Refute it at one input. -/
def fnUnitTableWrong : ChangeSpec := { name := "fnUnitTable", fn := fun _ => fun
  | [d1, d2, d3, d4, d5] => { results := [.lit (.bool false)], args := [d1, d2, d3, d4, d5] }
  | _ => none }
def FnUnitTableWrongFalsely : Prop := fnUnitTableRow.holds Try.pinned (OpenSpec.ofChange fnUnitTableWrong)

/-- 'zzlaws_internal_pcap_b1.FnUnitNonIncreasingInExponent': WHATEVER THE INPUT: true; the input reads as it did. -/
def fnUnitNonIncreasingInExponentSpec : ChangeSpec := { name := "fnUnitNonIncreasingInExponent", fn := fun _ => fun
  | [d1, d2] => { results := [.lit (.bool true)], args := [d1, d2] }
  | _ => none }
def fnUnitNonIncreasingInExponentRow : OpenClaim := { program := "qxb6600655a", sum := "47adf572db42263b10fad76f9c2ccfed4d212a464804fd07ca449ee13b975bc6", func := "example.com/spillway/spillway/zzlaws_internal_pcap_b1.FnUnitNonIncreasingInExponent", spec := "fnUnitNonIncreasingInExponent", apart := false }
def FnUnitNonIncreasingInExponentSaid : Prop := fnUnitNonIncreasingInExponentRow.holds Try.pinned (OpenSpec.ofChange fnUnitNonIncreasingInExponentSpec)

/-- ITS FALSE NEIGHBOUR: 'it returns false'. Refute it at one input. -/
def fnUnitNonIncreasingInExponentWrong : ChangeSpec := { name := "fnUnitNonIncreasingInExponent", fn := fun _ => fun
  | [d1, d2] => { results := [.lit (.bool false)], args := [d1, d2] }
  | _ => none }
def FnUnitNonIncreasingInExponentWrongFalsely : Prop := fnUnitNonIncreasingInExponentRow.holds Try.pinned (OpenSpec.ofChange fnUnitNonIncreasingInExponentWrong)

/-- 'zzlaws_internal_pcap_b1.FnUnitIsFloorOfSecondOverUnit': WHATEVER THE INPUT: true; the input reads as it did. -/
def fnUnitIsFloorOfSecondOverUnitSpec : ChangeSpec := { name := "fnUnitIsFloorOfSecondOverUnit", fn := fun _ => fun
  | [d1, d2] => { results := [.lit (.bool true)], args := [d1, d2] }
  | _ => none }
def fnUnitIsFloorOfSecondOverUnitRow : OpenClaim := { program := "qxb6600655a", sum := "47adf572db42263b10fad76f9c2ccfed4d212a464804fd07ca449ee13b975bc6", func := "example.com/spillway/spillway/zzlaws_internal_pcap_b1.FnUnitIsFloorOfSecondOverUnit", spec := "fnUnitIsFloorOfSecondOverUnit", apart := false }
def FnUnitIsFloorOfSecondOverUnitSaid : Prop := fnUnitIsFloorOfSecondOverUnitRow.holds Try.pinned (OpenSpec.ofChange fnUnitIsFloorOfSecondOverUnitSpec)

/-- ITS FALSE NEIGHBOUR: 'it returns false'. Refute it at one input. -/
def fnUnitIsFloorOfSecondOverUnitWrong : ChangeSpec := { name := "fnUnitIsFloorOfSecondOverUnit", fn := fun _ => fun
  | [d1, d2] => { results := [.lit (.bool false)], args := [d1, d2] }
  | _ => none }
def FnUnitIsFloorOfSecondOverUnitWrongFalsely : Prop := fnUnitIsFloorOfSecondOverUnitRow.holds Try.pinned (OpenSpec.ofChange fnUnitIsFloorOfSecondOverUnitWrong)

end Rows
end Go.Proofs.Qxb6600655a
