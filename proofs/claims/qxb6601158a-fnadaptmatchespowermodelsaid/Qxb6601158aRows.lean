/-
  No cell of these rows narrows 'for every input' (looked for: loops, veiled, ifaces, maps, wideKeys, modest, calm, conditions, laid).
  DERIVED. THE GIVEN ROWS OF THIS SEAT. 5 by the template 'for every input the law returns true; each argument reads behind the call as it read before'; 0 by the template 'total and deterministic' (their statements: Qxb6601158aTotals.lean).
  GIVEN WITH THE SEED: the statements are not yours to turn. If you find one false, say at which input.
  Laid BY PROGRAM, IN A SANDBOX (cutbox-rows.mjs): the forced cells as the released guide's own fill.sh prints them over the translation 821678d8a61f445c… (all of the seat's roots in one cut). By AI agents, Wed Nov 11 2026. No macro, syntax, notation, axiom, sorry.
-/
import Derived.Test.Qxb6601158aChecked
import GoSem.Claim
import GoSem.ClaimJoined
import GoSem.ClaimMapViews
import Derived.JoinedTies
import Derived.KernelRfl
namespace Go.Proofs.Qxb6601158a
/- THE CELL 'sum', in the pinned program and in every row, IS THE sha256 OF THE DUMP (.gsa) THAT Qxb6601158aProg.lean LOADS. Nothing in Lean hashes anything: it is a label: what it is worth is what the hold of that sum in a sandbox is worth. -/
noncomputable def Try.pinned : Pinned := { name := "qxb6601158a", sum := "821678d8a61f445caa8bc7f7c16ecd3f70d1c60d21789678bcdc2ef65a566ef7", checked := Try.checked }
namespace Rows
def none {H : Type} : Left H := { results := [], args := [] }

/-- 'zzlaws_internal_idna_b1.FnExceptionMatchesRFC5892Table': WHATEVER THE INPUT: true; the input reads as it did. -/
def fnExceptionMatchesRFC5892TableSpec : ChangeSpec := { name := "fnExceptionMatchesRFC5892Table", fn := fun _ => fun
  | [d] => { results := [.lit (.bool true)], args := [d] }
  | _ => none }
def fnExceptionMatchesRFC5892TableRow : OpenClaim := { program := "qxb6601158a", sum := "821678d8a61f445caa8bc7f7c16ecd3f70d1c60d21789678bcdc2ef65a566ef7", func := "example.com/contactwright/contactwright/zzlaws_internal_idna_b1.FnExceptionMatchesRFC5892Table", spec := "fnExceptionMatchesRFC5892Table", apart := false }
def FnExceptionMatchesRFC5892TableSaid : Prop := fnExceptionMatchesRFC5892TableRow.holds Try.pinned (OpenSpec.ofChange fnExceptionMatchesRFC5892TableSpec)

/-- ITS FALSE NEIGHBOUR: 'it returns false'. Refute it at one input. -/
def fnExceptionMatchesRFC5892TableWrong : ChangeSpec := { name := "fnExceptionMatchesRFC5892Table", fn := fun _ => fun
  | [d] => { results := [.lit (.bool false)], args := [d] }
  | _ => none }
def FnExceptionMatchesRFC5892TableWrongFalsely : Prop := fnExceptionMatchesRFC5892TableRow.holds Try.pinned (OpenSpec.ofChange fnExceptionMatchesRFC5892TableWrong)

/-- 'zzlaws_internal_idna_b1.FnPropertyStringDistinguishesTheFive': WHATEVER THE INPUT: true; the input reads as it did. -/
def fnPropertyStringDistinguishesTheFiveSpec : ChangeSpec := { name := "fnPropertyStringDistinguishesTheFive", fn := fun _ => fun
  | [d1, d2] => { results := [.lit (.bool true)], args := [d1, d2] }
  | _ => none }
def fnPropertyStringDistinguishesTheFiveRow : OpenClaim := { program := "qxb6601158a", sum := "821678d8a61f445caa8bc7f7c16ecd3f70d1c60d21789678bcdc2ef65a566ef7", func := "example.com/contactwright/contactwright/zzlaws_internal_idna_b1.FnPropertyStringDistinguishesTheFive", spec := "fnPropertyStringDistinguishesTheFive", apart := false }
def FnPropertyStringDistinguishesTheFiveSaid : Prop := fnPropertyStringDistinguishesTheFiveRow.holds Try.pinned (OpenSpec.ofChange fnPropertyStringDistinguishesTheFiveSpec)

/-- ITS FALSE NEIGHBOUR: 'it returns false'. Refute it at one input. -/
def fnPropertyStringDistinguishesTheFiveWrong : ChangeSpec := { name := "fnPropertyStringDistinguishesTheFive", fn := fun _ => fun
  | [d1, d2] => { results := [.lit (.bool false)], args := [d1, d2] }
  | _ => none }
def FnPropertyStringDistinguishesTheFiveWrongFalsely : Prop := fnPropertyStringDistinguishesTheFiveRow.holds Try.pinned (OpenSpec.ofChange fnPropertyStringDistinguishesTheFiveWrong)

/-- 'zzlaws_internal_idna_b1.FnAdaptMatchesPowerModel': WHATEVER THE INPUT: true; the input reads as it did. -/
def fnAdaptMatchesPowerModelSpec : ChangeSpec := { name := "fnAdaptMatchesPowerModel", fn := fun _ => fun
  | [d1, d2, d3] => { results := [.lit (.bool true)], args := [d1, d2, d3] }
  | _ => none }
def fnAdaptMatchesPowerModelRow : OpenClaim := { program := "qxb6601158a", sum := "821678d8a61f445caa8bc7f7c16ecd3f70d1c60d21789678bcdc2ef65a566ef7", func := "example.com/contactwright/contactwright/zzlaws_internal_idna_b1.FnAdaptMatchesPowerModel", spec := "fnAdaptMatchesPowerModel", apart := false }
def FnAdaptMatchesPowerModelSaid : Prop := fnAdaptMatchesPowerModelRow.holds Try.pinned (OpenSpec.ofChange fnAdaptMatchesPowerModelSpec)

/-- ITS FALSE NEIGHBOUR: 'it returns false'. Refute it at one input. -/
def fnAdaptMatchesPowerModelWrong : ChangeSpec := { name := "fnAdaptMatchesPowerModel", fn := fun _ => fun
  | [d1, d2, d3] => { results := [.lit (.bool false)], args := [d1, d2, d3] }
  | _ => none }
def FnAdaptMatchesPowerModelWrongFalsely : Prop := fnAdaptMatchesPowerModelRow.holds Try.pinned (OpenSpec.ofChange fnAdaptMatchesPowerModelWrong)

/-- 'zzlaws_internal_idna_b1.FnAdaptMonotoneInDelta': WHATEVER THE INPUT: true; the input reads as it did. -/
def fnAdaptMonotoneInDeltaSpec : ChangeSpec := { name := "fnAdaptMonotoneInDelta", fn := fun _ => fun
  | [d1, d2, d3, d4] => { results := [.lit (.bool true)], args := [d1, d2, d3, d4] }
  | _ => none }
def fnAdaptMonotoneInDeltaRow : OpenClaim := { program := "qxb6601158a", sum := "821678d8a61f445caa8bc7f7c16ecd3f70d1c60d21789678bcdc2ef65a566ef7", func := "example.com/contactwright/contactwright/zzlaws_internal_idna_b1.FnAdaptMonotoneInDelta", spec := "fnAdaptMonotoneInDelta", apart := false }
def FnAdaptMonotoneInDeltaSaid : Prop := fnAdaptMonotoneInDeltaRow.holds Try.pinned (OpenSpec.ofChange fnAdaptMonotoneInDeltaSpec)

/-- ITS FALSE NEIGHBOUR: 'it returns false'. Refute it at one input. -/
def fnAdaptMonotoneInDeltaWrong : ChangeSpec := { name := "fnAdaptMonotoneInDelta", fn := fun _ => fun
  | [d1, d2, d3, d4] => { results := [.lit (.bool false)], args := [d1, d2, d3, d4] }
  | _ => none }
def FnAdaptMonotoneInDeltaWrongFalsely : Prop := fnAdaptMonotoneInDeltaRow.holds Try.pinned (OpenSpec.ofChange fnAdaptMonotoneInDeltaWrong)

/-- 'zzlaws_internal_idna_b1.FnAdaptOrderedInPointsAndFirst': WHATEVER THE INPUT: true; the input reads as it did. -/
def fnAdaptOrderedInPointsAndFirstSpec : ChangeSpec := { name := "fnAdaptOrderedInPointsAndFirst", fn := fun _ => fun
  | [d1, d2, d3] => { results := [.lit (.bool true)], args := [d1, d2, d3] }
  | _ => none }
def fnAdaptOrderedInPointsAndFirstRow : OpenClaim := { program := "qxb6601158a", sum := "821678d8a61f445caa8bc7f7c16ecd3f70d1c60d21789678bcdc2ef65a566ef7", func := "example.com/contactwright/contactwright/zzlaws_internal_idna_b1.FnAdaptOrderedInPointsAndFirst", spec := "fnAdaptOrderedInPointsAndFirst", apart := false }
def FnAdaptOrderedInPointsAndFirstSaid : Prop := fnAdaptOrderedInPointsAndFirstRow.holds Try.pinned (OpenSpec.ofChange fnAdaptOrderedInPointsAndFirstSpec)

/-- ITS FALSE NEIGHBOUR: 'it returns false'. Refute it at one input. -/
def fnAdaptOrderedInPointsAndFirstWrong : ChangeSpec := { name := "fnAdaptOrderedInPointsAndFirst", fn := fun _ => fun
  | [d1, d2, d3] => { results := [.lit (.bool false)], args := [d1, d2, d3] }
  | _ => none }
def FnAdaptOrderedInPointsAndFirstWrongFalsely : Prop := fnAdaptOrderedInPointsAndFirstRow.holds Try.pinned (OpenSpec.ofChange fnAdaptOrderedInPointsAndFirstWrong)

end Rows
end Go.Proofs.Qxb6601158a
