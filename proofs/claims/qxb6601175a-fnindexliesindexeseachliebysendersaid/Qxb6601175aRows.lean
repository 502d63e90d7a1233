/-
  No cell of these rows narrows 'for every input' (looked for: loops, veiled, ifaces, maps, wideKeys, modest, calm, conditions, laid).
  DERIVED. THE GIVEN ROWS OF THIS SEAT. 3 by the template 'for every input the law returns true; each argument reads behind the call as it read before'; 0 by the template 'total and deterministic' (their statements: Qxb6601175aTotals.lean).
  GIVEN WITH THE SEED: the statements are not yours to turn. If you find one false, say at which input.
  Laid BY PROGRAM, IN A SANDBOX (cutbox-rows.mjs): the forced cells as the released guide's own fill.sh prints them over the translation 405b674b1363bf89… (all of the seat's roots in one cut). By AI agents, Wed Nov 11 2026. No macro, syntax, notation, axiom, sorry.
-/
import Derived.Test.Qxb6601175aChecked
import GoSem.Claim
import GoSem.ClaimJoined
import GoSem.ClaimMapViews
import Derived.JoinedTies
import Derived.KernelRfl
namespace Go.Proofs.Qxb6601175a
/- THE CELL 'sum', in the pinned program and in every row, IS THE sha256 OF THE DUMP (.gsa) THAT Qxb6601175aProg.lean LOADS. Nothing in Lean hashes anything: it is a label: what it is worth is what the hold of that sum in a sandbox is worth. -/
noncomputable def Try.pinned : Pinned := { name := "qxb6601175a", sum := "405b674b1363bf89047cb8c7cb798e0ee585b2f34c22de837f485de881cfea5f", checked := Try.checked }
namespace Rows
def none {H : Type} : Left H := { results := [], args := [] }

/-- 'zzlaws_pkg_council_b1.FnIndexLiesIndexesEachLieBySender': WHATEVER THE INPUT: true; the input reads as it did. -/
def fnIndexLiesIndexesEachLieBySenderSpec : ChangeSpec := { name := "fnIndexLiesIndexesEachLieBySender", fn := fun _ => fun
  | [d1, d2] => { results := [.lit (.bool true)], args := [d1, d2] }
  | _ => none }
def fnIndexLiesIndexesEachLieBySenderRow : OpenClaim := { program := "qxb6601175a", sum := "405b674b1363bf89047cb8c7cb798e0ee585b2f34c22de837f485de881cfea5f", func := "example.com/loyal-council/loyal-council/zzlaws_pkg_council_b1.FnIndexLiesIndexesEachLieBySender", spec := "fnIndexLiesIndexesEachLieBySender", apart := false }
def FnIndexLiesIndexesEachLieBySenderSaid : Prop := fnIndexLiesIndexesEachLieBySenderRow.holds Try.pinned (OpenSpec.ofChange fnIndexLiesIndexesEachLieBySenderSpec)

/-- ITS FALSE NEIGHBOUR: 'it returns false'. Refute it at one input. -/
def fnIndexLiesIndexesEachLieBySenderWrong : ChangeSpec := { name := "fnIndexLiesIndexesEachLieBySender", fn := fun _ => fun
  | [d1, d2] => { results := [.lit (.bool false)], args := [d1, d2] }
  | _ => none }
def FnIndexLiesIndexesEachLieBySenderWrongFalsely : Prop := fnIndexLiesIndexesEachLieBySenderRow.holds Try.pinned (OpenSpec.ofChange fnIndexLiesIndexesEachLieBySenderWrong)

/-- 'zzlaws_pkg_council_b1.FnAugmentTakesFirstShortestOpenPath': WHATEVER THE INPUT: true; the input reads as it did. -/
def fnAugmentTakesFirstShortestOpenPathSpec : ChangeSpec := { name := "fnAugmentTakesFirstShortestOpenPath", fn := fun _ => fun
  | [d1, d2, d3, d4] => { results := [.lit (.bool true)], args := [d1, d2, d3, d4] }
  | _ => none }
def fnAugmentTakesFirstShortestOpenPathRow : OpenClaim := { program := "qxb6601175a", sum := "405b674b1363bf89047cb8c7cb798e0ee585b2f34c22de837f485de881cfea5f", func := "example.com/loyal-council/loyal-council/zzlaws_pkg_council_b1.FnAugmentTakesFirstShortestOpenPath", spec := "fnAugmentTakesFirstShortestOpenPath", inPlace := ["slices.overlaps[int]"], apart := false }
def FnAugmentTakesFirstShortestOpenPathSaid : Prop := fnAugmentTakesFirstShortestOpenPathRow.holds Try.pinned (OpenSpec.ofChange fnAugmentTakesFirstShortestOpenPathSpec)

/-- ITS FALSE NEIGHBOUR: 'it returns false'. Refute it at one input. -/
def fnAugmentTakesFirstShortestOpenPathWrong : ChangeSpec := { name := "fnAugmentTakesFirstShortestOpenPath", fn := fun _ => fun
  | [d1, d2, d3, d4] => { results := [.lit (.bool false)], args := [d1, d2, d3, d4] }
  | _ => none }
def FnAugmentTakesFirstShortestOpenPathWrongFalsely : Prop := fnAugmentTakesFirstShortestOpenPathRow.holds Try.pinned (OpenSpec.ofChange fnAugmentTakesFirstShortestOpenPathWrong)

/-- 'zzlaws_pkg_council_b1.FnAugmentRepeatedFindsMaxFlow': WHATEVER THE INPUT: true; the input reads as it did. -/
def fnAugmentRepeatedFindsMaxFlowSpec : ChangeSpec := { name := "fnAugmentRepeatedFindsMaxFlow", fn := fun _ => fun
  | [d1, d2, d3, d4] => { results := [.lit (.bool true)], args := [d1, d2, d3, d4] }
  | _ => none }
def fnAugmentRepeatedFindsMaxFlowRow : OpenClaim := { program := "qxb6601175a", sum := "405b674b1363bf89047cb8c7cb798e0ee585b2f34c22de837f485de881cfea5f", func := "example.com/loyal-council/loyal-council/zzlaws_pkg_council_b1.FnAugmentRepeatedFindsMaxFlow", spec := "fnAugmentRepeatedFindsMaxFlow", inPlace := ["slices.overlaps[int]"], apart := false }
def FnAugmentRepeatedFindsMaxFlowSaid : Prop := fnAugmentRepeatedFindsMaxFlowRow.holds Try.pinned (OpenSpec.ofChange fnAugmentRepeatedFindsMaxFlowSpec)

/-- ITS FALSE NEIGHBOUR: 'it returns false'. Refute it at one input. -/
def fnAugmentRepeatedFindsMaxFlowWrong : ChangeSpec := { name := "fnAugmentRepeatedFindsMaxFlow", fn := fun _ => fun
  | [d1, d2, d3, d4] => { results := [.lit (.bool false)], args := [d1, d2, d3, d4] }
  | _ => none }
def FnAugmentRepeatedFindsMaxFlowWrongFalsely : Prop := fnAugmentRepeatedFindsMaxFlowRow.holds Try.pinned (OpenSpec.ofChange fnAugmentRepeatedFindsMaxFlowWrong)

end Rows
end Go.Proofs.Qxb6601175a
