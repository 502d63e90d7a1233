/-
  No cell of these rows narrows 'for every input' (looked for: loops, veiled, ifaces, maps, wideKeys, modest, calm, conditions, laid).
  DERIVED. THE GIVEN ROWS OF THIS SEAT. 7 by the template 'for every input the law returns true; each argument reads behind the call as it read before'; 0 by the template 'total and deterministic' (their statements: Qxb6000762aTotals.lean).
  GIVEN WITH THE SEED: the statements are not yours to turn. If you find one false, say at which input.
  Laid BY PROGRAM, IN A SANDBOX (cutbox-rows.mjs): the forced cells as the released guide's own fill.sh prints them over the translation 4062da970bc6e40e… (all of the seat's roots in one cut). By AI agents, Wed Nov 11 2026. No macro, syntax, notation, axiom, sorry.
-/
import Derived.Test.Qxb6000762aChecked
import GoSem.Claim
import GoSem.ClaimJoined
import GoSem.ClaimMapViews
import Derived.JoinedTies
import Derived.KernelRfl
namespace Go.Proofs.Qxb6000762a
/- THE CELL 'sum', in the pinned program and in every row, IS THE sha256 OF THE DUMP (.gsa) THAT Qxb6000762aProg.lean LOADS. Nothing in Lean hashes anything: it is a label: what it is worth is what the hold of that sum in a sandbox is worth. -/
noncomputable def Try.pinned : Pinned := { name := "qxb6000762a", sum := "4062da970bc6e40e2acb8ca3ce4f05740f0767186b329e11919c2ba00cfc2983", checked := Try.checked }
namespace Rows
def none {H : Type} : Left H := { results := [], args := [] }

/-- 'zzlaws_root_b1.FnLookupCavageParamMatchesModel': WHATEVER THE INPUT: true; the input reads as it did. -/
def fnLookupCavageParamMatchesModelSpec : ChangeSpec := { name := "fnLookupCavageParamMatchesModel", fn := fun _ => fun
  | [d] => { results := [.lit (.bool true)], args := [d] }
  | _ => none }
def fnLookupCavageParamMatchesModelRow : OpenClaim := { program := "qxb6000762a", sum := "4062da970bc6e40e2acb8ca3ce4f05740f0767186b329e11919c2ba00cfc2983", func := "example.com/insigna/insigna/zzlaws_root_b1.FnLookupCavageParamMatchesModel", spec := "fnLookupCavageParamMatchesModel", apart := false }
def FnLookupCavageParamMatchesModelSaid : Prop := fnLookupCavageParamMatchesModelRow.holds Try.pinned (OpenSpec.ofChange fnLookupCavageParamMatchesModelSpec)

/-- ITS FALSE NEIGHBOUR: 'it returns false'. Refute it at one input. -/
def fnLookupCavageParamMatchesModelWrong : ChangeSpec := { name := "fnLookupCavageParamMatchesModel", fn := fun _ => fun
  | [d] => { results := [.lit (.bool false)], args := [d] }
  | _ => none }
def FnLookupCavageParamMatchesModelWrongFalsely : Prop := fnLookupCavageParamMatchesModelRow.holds Try.pinned (OpenSpec.ofChange fnLookupCavageParamMatchesModelWrong)

/-- 'zzlaws_root_b1.FnLookupCavageParamCaseFree': WHATEVER THE INPUT: true; the input reads as it did. -/
def fnLookupCavageParamCaseFreeSpec : ChangeSpec := { name := "fnLookupCavageParamCaseFree", fn := fun _ => fun
  | [d] => { results := [.lit (.bool true)], args := [d] }
  | _ => none }
def fnLookupCavageParamCaseFreeRow : OpenClaim := { program := "qxb6000762a", sum := "4062da970bc6e40e2acb8ca3ce4f05740f0767186b329e11919c2ba00cfc2983", func := "example.com/insigna/insigna/zzlaws_root_b1.FnLookupCavageParamCaseFree", spec := "fnLookupCavageParamCaseFree", apart := false }
def FnLookupCavageParamCaseFreeSaid : Prop := fnLookupCavageParamCaseFreeRow.holds Try.pinned (OpenSpec.ofChange fnLookupCavageParamCaseFreeSpec)

/-- ITS FALSE NEIGHBOUR: 'it returns false'. Refute it at one input. -/
def fnLookupCavageParamCaseFreeWrong : ChangeSpec := { name := "fnLookupCavageParamCaseFree", fn := fun _ => fun
  | [d] => { results := [.lit (.bool false)], args := [d] }
  | _ => none }
def FnLookupCavageParamCaseFreeWrongFalsely : Prop := fnLookupCavageParamCaseFreeRow.holds Try.pinned (OpenSpec.ofChange fnLookupCavageParamCaseFreeWrong)

/-- 'zzlaws_root_b1.FnLookupCavageParamRoundTrip': WHATEVER THE INPUT: true; the input reads as it did. -/
def fnLookupCavageParamRoundTripSpec : ChangeSpec := { name := "fnLookupCavageParamRoundTrip", fn := fun _ => fun
  | [d1, d2] => { results := [.lit (.bool true)], args := [d1, d2] }
  | _ => none }
def fnLookupCavageParamRoundTripRow : OpenClaim := { program := "qxb6000762a", sum := "4062da970bc6e40e2acb8ca3ce4f05740f0767186b329e11919c2ba00cfc2983", func := "example.com/insigna/insigna/zzlaws_root_b1.FnLookupCavageParamRoundTrip", spec := "fnLookupCavageParamRoundTrip", apart := false }
def FnLookupCavageParamRoundTripSaid : Prop := fnLookupCavageParamRoundTripRow.holds Try.pinned (OpenSpec.ofChange fnLookupCavageParamRoundTripSpec)

/-- ITS FALSE NEIGHBOUR: 'it returns false'. Refute it at one input. -/
def fnLookupCavageParamRoundTripWrong : ChangeSpec := { name := "fnLookupCavageParamRoundTrip", fn := fun _ => fun
  | [d1, d2] => { results := [.lit (.bool false)], args := [d1, d2] }
  | _ => none }
def FnLookupCavageParamRoundTripWrongFalsely : Prop := fnLookupCavageParamRoundTripRow.holds Try.pinned (OpenSpec.ofChange fnLookupCavageParamRoundTripWrong)

/-- 'zzlaws_root_b1.FnMonthNumberInjective': WHATEVER THE INPUT: true; the input reads as it did. -/
def fnMonthNumberInjectiveSpec : ChangeSpec := { name := "fnMonthNumberInjective", fn := fun _ => fun
  | [d1, d2] => { results := [.lit (.bool true)], args := [d1, d2] }
  | _ => none }
def fnMonthNumberInjectiveRow : OpenClaim := { program := "qxb6000762a", sum := "4062da970bc6e40e2acb8ca3ce4f05740f0767186b329e11919c2ba00cfc2983", func := "example.com/insigna/insigna/zzlaws_root_b1.FnMonthNumberInjective", spec := "fnMonthNumberInjective", apart := false }
def FnMonthNumberInjectiveSaid : Prop := fnMonthNumberInjectiveRow.holds Try.pinned (OpenSpec.ofChange fnMonthNumberInjectiveSpec)

/-- ITS FALSE NEIGHBOUR: 'it returns false'. Refute it at one input. -/
def fnMonthNumberInjectiveWrong : ChangeSpec := { name := "fnMonthNumberInjective", fn := fun _ => fun
  | [d1, d2] => { results := [.lit (.bool false)], args := [d1, d2] }
  | _ => none }
def FnMonthNumberInjectiveWrongFalsely : Prop := fnMonthNumberInjectiveRow.holds Try.pinned (OpenSpec.ofChange fnMonthNumberInjectiveWrong)

/-- 'zzlaws_root_b1.FnMaximalSubpartMatchesModel': WHATEVER THE INPUT: true; the input reads as it did. -/
def fnMaximalSubpartMatchesModelSpec : ChangeSpec := { name := "fnMaximalSubpartMatchesModel", fn := fun _ => fun
  | [d] => { results := [.lit (.bool true)], args := [d] }
  | _ => none }
def fnMaximalSubpartMatchesModelRow : OpenClaim := { program := "qxb6000762a", sum := "4062da970bc6e40e2acb8ca3ce4f05740f0767186b329e11919c2ba00cfc2983", func := "example.com/insigna/insigna/zzlaws_root_b1.FnMaximalSubpartMatchesModel", spec := "fnMaximalSubpartMatchesModel", apart := false }
def FnMaximalSubpartMatchesModelSaid : Prop := fnMaximalSubpartMatchesModelRow.holds Try.pinned (OpenSpec.ofChange fnMaximalSubpartMatchesModelSpec)

/-- ITS FALSE NEIGHBOUR: 'it returns false'. Refute it at one input. -/
def fnMaximalSubpartMatchesModelWrong : ChangeSpec := { name := "fnMaximalSubpartMatchesModel", fn := fun _ => fun
  | [d] => { results := [.lit (.bool false)], args := [d] }
  | _ => none }
def FnMaximalSubpartMatchesModelWrongFalsely : Prop := fnMaximalSubpartMatchesModelRow.holds Try.pinned (OpenSpec.ofChange fnMaximalSubpartMatchesModelWrong)

/-- 'zzlaws_root_b1.FnMaximalSubpartIdempotent': WHATEVER THE INPUT: true; the input reads as it did. -/
def fnMaximalSubpartIdempotentSpec : ChangeSpec := { name := "fnMaximalSubpartIdempotent", fn := fun _ => fun
  | [d] => { results := [.lit (.bool true)], args := [d] }
  | _ => none }
def fnMaximalSubpartIdempotentRow : OpenClaim := { program := "qxb6000762a", sum := "4062da970bc6e40e2acb8ca3ce4f05740f0767186b329e11919c2ba00cfc2983", func := "example.com/insigna/insigna/zzlaws_root_b1.FnMaximalSubpartIdempotent", spec := "fnMaximalSubpartIdempotent", apart := false }
def FnMaximalSubpartIdempotentSaid : Prop := fnMaximalSubpartIdempotentRow.holds Try.pinned (OpenSpec.ofChange fnMaximalSubpartIdempotentSpec)

/-- ITS FALSE NEIGHBOUR: 'it returns false'. Refute it at one input. -/
def fnMaximalSubpartIdempotentWrong : ChangeSpec := { name := "fnMaximalSubpartIdempotent", fn := fun _ => fun
  | [d] => { results := [.lit (.bool false)], args := [d] }
  | _ => none }
def FnMaximalSubpartIdempotentWrongFalsely : Prop := fnMaximalSubpartIdempotentRow.holds Try.pinned (OpenSpec.ofChange fnMaximalSubpartIdempotentWrong)

/-- 'zzlaws_root_b1.FnMaximalSubpartExtensionKeeps': WHATEVER THE INPUT: true; the input reads as it did. -/
def fnMaximalSubpartExtensionKeepsSpec : ChangeSpec := { name := "fnMaximalSubpartExtensionKeeps", fn := fun _ => fun
  | [d1, d2] => { results := [.lit (.bool true)], args := [d1, d2] }
  | _ => none }
def fnMaximalSubpartExtensionKeepsRow : OpenClaim := { program := "qxb6000762a", sum := "4062da970bc6e40e2acb8ca3ce4f05740f0767186b329e11919c2ba00cfc2983", func := "example.com/insigna/insigna/zzlaws_root_b1.FnMaximalSubpartExtensionKeeps", spec := "fnMaximalSubpartExtensionKeeps", apart := false }
def FnMaximalSubpartExtensionKeepsSaid : Prop := fnMaximalSubpartExtensionKeepsRow.holds Try.pinned (OpenSpec.ofChange fnMaximalSubpartExtensionKeepsSpec)

/-- ITS FALSE NEIGHBOUR: 'it returns false'. Refute it at one input. -/
def fnMaximalSubpartExtensionKeepsWrong : ChangeSpec := { name := "fnMaximalSubpartExtensionKeeps", fn := fun _ => fun
  | [d1, d2] => { results := [.lit (.bool false)], args := [d1, d2] }
  | _ => none }
def FnMaximalSubpartExtensionKeepsWrongFalsely : Prop := fnMaximalSubpartExtensionKeepsRow.holds Try.pinned (OpenSpec.ofChange fnMaximalSubpartExtensionKeepsWrong)

end Rows
end Go.Proofs.Qxb6000762a
