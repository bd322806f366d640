/-
  No cell of these rows narrows 'for every input' (looked for: loops, veiled, ifaces, maps, wideKeys, modest, calm, conditions, laid).
  DERIVED. THE GIVEN ROWS OF THIS SEAT. 3 by the template 'for every input the law returns true; each argument reads behind the call as it read before'; 0 by the template 'total and deterministic' (their statements: Qxb6603482aTotals.lean).
  GIVEN WITH THE SEED: the statements are not yours to turn. If you find one false, say at which input.
  Laid BY PROGRAM, IN A SANDBOX (cutbox-rows.mjs): the forced cells as the released guide's own fill.sh prints them over the translation b7c374a676b3de7e… (all of the seat's roots in one cut). By AI agents, Wed Nov 11 2026. No macro, syntax, notation, axiom, sorry.
-/
import Derived.Test.Qxb6603482aChecked
import GoSem.Claim
import GoSem.ClaimJoined
import GoSem.ClaimMapViews
import Derived.JoinedTies
import Derived.KernelRfl
namespace Go.Proofs.Qxb6603482a
/- THE CELL 'sum', in the pinned program and in every row, IS THE sha256 OF THE DUMP (.gsa) THAT Qxb6603482aProg.lean LOADS. Nothing in Lean hashes anything: it is a label: what it is worth is what the hold of that sum in a sandbox is worth. -/
noncomputable def Try.pinned : Pinned := { name := "qxb6603482a", sum := "b7c374a676b3de7e62972fdf17452d37661cc977f7a75dfc9ac7608281f0eba0", checked := Try.checked }
namespace Rows
def none {H : Type} : Left H := { results := [], args := [] }

/-- 'zzlaws_root_b1.FnAssertionAgreesWithAssertsOnLeafAndParent': WHATEVER THE INPUT: true; the input reads as it did. -/
def fnAssertionAgreesWithAssertsOnLeafAndParentSpec : ChangeSpec := { name := "fnAssertionAgreesWithAssertsOnLeafAndParent", fn := fun _ => fun
  | [d1, d2] => { results := [.lit (.bool true)], args := [d1, d2] }
  | _ => none }
def fnAssertionAgreesWithAssertsOnLeafAndParentRow : OpenClaim := { program := "qxb6603482a", sum := "b7c374a676b3de7e62972fdf17452d37661cc977f7a75dfc9ac7608281f0eba0", func := "example.com/hisingen/hisingen/zzlaws_root_b1.FnAssertionAgreesWithAssertsOnLeafAndParent", spec := "fnAssertionAgreesWithAssertsOnLeafAndParent", unfollowed := true, recurses := true, apart := false }
def FnAssertionAgreesWithAssertsOnLeafAndParentSaid : Prop := fnAssertionAgreesWithAssertsOnLeafAndParentRow.holds Try.pinned (OpenSpec.ofChange fnAssertionAgreesWithAssertsOnLeafAndParentSpec)

/-- ITS FALSE NEIGHBOUR: 'it returns false'. Refute it at one input. -/
def fnAssertionAgreesWithAssertsOnLeafAndParentWrong : ChangeSpec := { name := "fnAssertionAgreesWithAssertsOnLeafAndParent", fn := fun _ => fun
  | [d1, d2] => { results := [.lit (.bool false)], args := [d1, d2] }
  | _ => none }
def FnAssertionAgreesWithAssertsOnLeafAndParentWrongFalsely : Prop := fnAssertionAgreesWithAssertsOnLeafAndParentRow.holds Try.pinned (OpenSpec.ofChange fnAssertionAgreesWithAssertsOnLeafAndParentWrong)

/-- 'zzlaws_root_b1.FnAssertsTwoLevelTree': WHATEVER THE INPUT: true; the input reads as it did. -/
def fnAssertsTwoLevelTreeSpec : ChangeSpec := { name := "fnAssertsTwoLevelTree", fn := fun _ => fun
  | [d1, d2] => { results := [.lit (.bool true)], args := [d1, d2] }
  | _ => none }
def fnAssertsTwoLevelTreeRow : OpenClaim := { program := "qxb6603482a", sum := "b7c374a676b3de7e62972fdf17452d37661cc977f7a75dfc9ac7608281f0eba0", func := "example.com/hisingen/hisingen/zzlaws_root_b1.FnAssertsTwoLevelTree", spec := "fnAssertsTwoLevelTree", unfollowed := true, recurses := true, apart := false }
def FnAssertsTwoLevelTreeSaid : Prop := fnAssertsTwoLevelTreeRow.holds Try.pinned (OpenSpec.ofChange fnAssertsTwoLevelTreeSpec)

/-- ITS FALSE NEIGHBOUR: 'it returns false'. Refute it at one input. -/
def fnAssertsTwoLevelTreeWrong : ChangeSpec := { name := "fnAssertsTwoLevelTree", fn := fun _ => fun
  | [d1, d2] => { results := [.lit (.bool false)], args := [d1, d2] }
  | _ => none }
def FnAssertsTwoLevelTreeWrongFalsely : Prop := fnAssertsTwoLevelTreeRow.holds Try.pinned (OpenSpec.ofChange fnAssertsTwoLevelTreeWrong)

/-- 'zzlaws_root_b1.FnAssertsChain': WHATEVER THE INPUT: true; the input reads as it did. -/
def fnAssertsChainSpec : ChangeSpec := { name := "fnAssertsChain", fn := fun _ => fun
  | [d1, d2] => { results := [.lit (.bool true)], args := [d1, d2] }
  | _ => none }
def fnAssertsChainRow : OpenClaim := { program := "qxb6603482a", sum := "b7c374a676b3de7e62972fdf17452d37661cc977f7a75dfc9ac7608281f0eba0", func := "example.com/hisingen/hisingen/zzlaws_root_b1.FnAssertsChain", spec := "fnAssertsChain", unfollowed := true, recurses := true, apart := false }
def FnAssertsChainSaid : Prop := fnAssertsChainRow.holds Try.pinned (OpenSpec.ofChange fnAssertsChainSpec)

/-- ITS FALSE NEIGHBOUR: 'it returns false'. Refute it at one input. -/
def fnAssertsChainWrong : ChangeSpec := { name := "fnAssertsChain", fn := fun _ => fun
  | [d1, d2] => { results := [.lit (.bool false)], args := [d1, d2] }
  | _ => none }
def FnAssertsChainWrongFalsely : Prop := fnAssertsChainRow.holds Try.pinned (OpenSpec.ofChange fnAssertsChainWrong)

end Rows
end Go.Proofs.Qxb6603482a
