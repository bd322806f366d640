/-
  No cell of these rows narrows 'for every input' (looked for: loops, veiled, ifaces, maps, wideKeys, modest, calm, conditions, laid).
  DERIVED. THE GIVEN ROWS OF THIS SEAT. 6 by the template 'for every input the law returns true; each argument reads behind the call as it read before'; 0 by the template 'total and deterministic' (their statements: Qxb6002787aTotals.lean).
  GIVEN WITH THE SEED: the statements are not yours to turn. If you find one false, say at which input.
  Laid BY PROGRAM, IN A SANDBOX (cutbox-rows.mjs): the forced cells as the released guide's own fill.sh prints them over the translation 2e0cdd2a3065018d… (all of the seat's roots in one cut). By AI agents, Wed Nov 11 2026. No macro, syntax, notation, axiom, sorry.
-/
import Derived.Test.Qxb6002787aChecked
import GoSem.Claim
import GoSem.ClaimJoined
import GoSem.ClaimMapViews
import Derived.JoinedTies
import Derived.KernelRfl
namespace Go.Proofs.Qxb6002787a
/- THE CELL 'sum', in the pinned program and in every row, IS THE sha256 OF THE DUMP (.gsa) THAT Qxb6002787aProg.lean LOADS. Nothing in Lean hashes anything: it is a label: what it is worth is what the hold of that sum in a sandbox is worth. -/
noncomputable def Try.pinned : Pinned := { name := "qxb6002787a", sum := "2e0cdd2a3065018da55d77f77ed8a64713124722489cc0c5b143033b4d4b51f2", checked := Try.checked }
namespace Rows
def none {H : Type} : Left H := { results := [], args := [] }

/-- 'zzlaws_root_b1.FnAppendCanonicalStringDecodesBack': WHATEVER THE INPUT: true; the input reads as it did. -/
def fnAppendCanonicalStringDecodesBackSpec : ChangeSpec := { name := "fnAppendCanonicalStringDecodesBack", fn := fun _ => fun
  | [d1, d2] => { results := [.lit (.bool true)], args := [d1, d2] }
  | _ => none }
def fnAppendCanonicalStringDecodesBackRow : OpenClaim := { program := "qxb6002787a", sum := "2e0cdd2a3065018da55d77f77ed8a64713124722489cc0c5b143033b4d4b51f2", func := "example.com/resolvent/resolvent/zzlaws_root_b1.FnAppendCanonicalStringDecodesBack", spec := "fnAppendCanonicalStringDecodesBack", apart := false }
def FnAppendCanonicalStringDecodesBackSaid : Prop := fnAppendCanonicalStringDecodesBackRow.holds Try.pinned (OpenSpec.ofChange fnAppendCanonicalStringDecodesBackSpec)

/-- ITS FALSE NEIGHBOUR: 'it returns false'. Refute it at one input. -/
def fnAppendCanonicalStringDecodesBackWrong : ChangeSpec := { name := "fnAppendCanonicalStringDecodesBack", fn := fun _ => fun
  | [d1, d2] => { results := [.lit (.bool false)], args := [d1, d2] }
  | _ => none }
def FnAppendCanonicalStringDecodesBackWrongFalsely : Prop := fnAppendCanonicalStringDecodesBackRow.holds Try.pinned (OpenSpec.ofChange fnAppendCanonicalStringDecodesBackWrong)

/-- 'zzlaws_root_b1.FnAppendCanonicalStringSplits': WHATEVER THE INPUT: true; the input reads as it did. -/
def fnAppendCanonicalStringSplitsSpec : ChangeSpec := { name := "fnAppendCanonicalStringSplits", fn := fun _ => fun
  | [d1, d2, d3] => { results := [.lit (.bool true)], args := [d1, d2, d3] }
  | _ => none }
def fnAppendCanonicalStringSplitsRow : OpenClaim := { program := "qxb6002787a", sum := "2e0cdd2a3065018da55d77f77ed8a64713124722489cc0c5b143033b4d4b51f2", func := "example.com/resolvent/resolvent/zzlaws_root_b1.FnAppendCanonicalStringSplits", spec := "fnAppendCanonicalStringSplits", apart := false }
def FnAppendCanonicalStringSplitsSaid : Prop := fnAppendCanonicalStringSplitsRow.holds Try.pinned (OpenSpec.ofChange fnAppendCanonicalStringSplitsSpec)

/-- ITS FALSE NEIGHBOUR: 'it returns false'. Refute it at one input. -/
def fnAppendCanonicalStringSplitsWrong : ChangeSpec := { name := "fnAppendCanonicalStringSplits", fn := fun _ => fun
  | [d1, d2, d3] => { results := [.lit (.bool false)], args := [d1, d2, d3] }
  | _ => none }
def FnAppendCanonicalStringSplitsWrongFalsely : Prop := fnAppendCanonicalStringSplitsRow.holds Try.pinned (OpenSpec.ofChange fnAppendCanonicalStringSplitsWrong)

/-- 'zzlaws_root_b1.FnControlEscapeReadsBack': WHATEVER THE INPUT: true; the input reads as it did. -/
def fnControlEscapeReadsBackSpec : ChangeSpec := { name := "fnControlEscapeReadsBack", fn := fun _ => fun
  | [d] => { results := [.lit (.bool true)], args := [d] }
  | _ => none }
def fnControlEscapeReadsBackRow : OpenClaim := { program := "qxb6002787a", sum := "2e0cdd2a3065018da55d77f77ed8a64713124722489cc0c5b143033b4d4b51f2", func := "example.com/resolvent/resolvent/zzlaws_root_b1.FnControlEscapeReadsBack", spec := "fnControlEscapeReadsBack", apart := false }
def FnControlEscapeReadsBackSaid : Prop := fnControlEscapeReadsBackRow.holds Try.pinned (OpenSpec.ofChange fnControlEscapeReadsBackSpec)

/-- ITS FALSE NEIGHBOUR: 'it returns false'. Refute it at one input. -/
def fnControlEscapeReadsBackWrong : ChangeSpec := { name := "fnControlEscapeReadsBack", fn := fun _ => fun
  | [d] => { results := [.lit (.bool false)], args := [d] }
  | _ => none }
def FnControlEscapeReadsBackWrongFalsely : Prop := fnControlEscapeReadsBackRow.holds Try.pinned (OpenSpec.ofChange fnControlEscapeReadsBackWrong)

/-- 'zzlaws_root_b1.FnHex4MatchesModel': WHATEVER THE INPUT: true; the input reads as it did. -/
def fnHex4MatchesModelSpec : ChangeSpec := { name := "fnHex4MatchesModel", fn := fun _ => fun
  | [d] => { results := [.lit (.bool true)], args := [d] }
  | _ => none }
def fnHex4MatchesModelRow : OpenClaim := { program := "qxb6002787a", sum := "2e0cdd2a3065018da55d77f77ed8a64713124722489cc0c5b143033b4d4b51f2", func := "example.com/resolvent/resolvent/zzlaws_root_b1.FnHex4MatchesModel", spec := "fnHex4MatchesModel", apart := false }
def FnHex4MatchesModelSaid : Prop := fnHex4MatchesModelRow.holds Try.pinned (OpenSpec.ofChange fnHex4MatchesModelSpec)

/-- ITS FALSE NEIGHBOUR: 'it returns false'. Refute it at one input. -/
def fnHex4MatchesModelWrong : ChangeSpec := { name := "fnHex4MatchesModel", fn := fun _ => fun
  | [d] => { results := [.lit (.bool false)], args := [d] }
  | _ => none }
def FnHex4MatchesModelWrongFalsely : Prop := fnHex4MatchesModelRow.holds Try.pinned (OpenSpec.ofChange fnHex4MatchesModelWrong)

/-- 'zzlaws_root_b1.FnHex4ReadsWhatIsWritten': WHATEVER THE INPUT: true; the input reads as it did. -/
def fnHex4ReadsWhatIsWrittenSpec : ChangeSpec := { name := "fnHex4ReadsWhatIsWritten", fn := fun _ => fun
  | [d1, d2, d3] => { results := [.lit (.bool true)], args := [d1, d2, d3] }
  | _ => none }
def fnHex4ReadsWhatIsWrittenRow : OpenClaim := { program := "qxb6002787a", sum := "2e0cdd2a3065018da55d77f77ed8a64713124722489cc0c5b143033b4d4b51f2", func := "example.com/resolvent/resolvent/zzlaws_root_b1.FnHex4ReadsWhatIsWritten", spec := "fnHex4ReadsWhatIsWritten", apart := false }
def FnHex4ReadsWhatIsWrittenSaid : Prop := fnHex4ReadsWhatIsWrittenRow.holds Try.pinned (OpenSpec.ofChange fnHex4ReadsWhatIsWrittenSpec)

/-- ITS FALSE NEIGHBOUR: 'it returns false'. Refute it at one input. -/
def fnHex4ReadsWhatIsWrittenWrong : ChangeSpec := { name := "fnHex4ReadsWhatIsWritten", fn := fun _ => fun
  | [d1, d2, d3] => { results := [.lit (.bool false)], args := [d1, d2, d3] }
  | _ => none }
def FnHex4ReadsWhatIsWrittenWrongFalsely : Prop := fnHex4ReadsWhatIsWrittenRow.holds Try.pinned (OpenSpec.ofChange fnHex4ReadsWhatIsWrittenWrong)

/-- 'zzlaws_root_b1.FnKnowsJoinRuleGrowsWithFeatures': WHATEVER THE INPUT: true; the input reads as it did. -/
def fnKnowsJoinRuleGrowsWithFeaturesSpec : ChangeSpec := { name := "fnKnowsJoinRuleGrowsWithFeatures", fn := fun _ => fun
  | [d] => { results := [.lit (.bool true)], args := [d] }
  | _ => none }
def fnKnowsJoinRuleGrowsWithFeaturesRow : OpenClaim := { program := "qxb6002787a", sum := "2e0cdd2a3065018da55d77f77ed8a64713124722489cc0c5b143033b4d4b51f2", func := "example.com/resolvent/resolvent/zzlaws_root_b1.FnKnowsJoinRuleGrowsWithFeatures", spec := "fnKnowsJoinRuleGrowsWithFeatures", apart := false }
def FnKnowsJoinRuleGrowsWithFeaturesSaid : Prop := fnKnowsJoinRuleGrowsWithFeaturesRow.holds Try.pinned (OpenSpec.ofChange fnKnowsJoinRuleGrowsWithFeaturesSpec)

/-- ITS FALSE NEIGHBOUR: 'it returns false'. Refute it at one input. -/
def fnKnowsJoinRuleGrowsWithFeaturesWrong : ChangeSpec := { name := "fnKnowsJoinRuleGrowsWithFeatures", fn := fun _ => fun
  | [d] => { results := [.lit (.bool false)], args := [d] }
  | _ => none }
def FnKnowsJoinRuleGrowsWithFeaturesWrongFalsely : Prop := fnKnowsJoinRuleGrowsWithFeaturesRow.holds Try.pinned (OpenSpec.ofChange fnKnowsJoinRuleGrowsWithFeaturesWrong)

end Rows
end Go.Proofs.Qxb6002787a
