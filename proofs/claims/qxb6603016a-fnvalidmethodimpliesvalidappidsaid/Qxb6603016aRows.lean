/-
  No cell of these rows narrows 'for every input' (looked for: loops, veiled, ifaces, maps, wideKeys, modest, calm, conditions, laid).
  DERIVED. THE GIVEN ROWS OF THIS SEAT. 8 by the template 'for every input the law returns true; each argument reads behind the call as it read before'; 0 by the template 'total and deterministic' (their statements: Qxb6603016aTotals.lean).
  GIVEN WITH THE SEED: the statements are not yours to turn. If you find one false, say at which input.
  Laid BY PROGRAM, IN A SANDBOX (cutbox-rows.mjs): the forced cells as the released guide's own fill.sh prints them over the translation 981f26967377285f… (all of the seat's roots in one cut). By AI agents, Wed Nov 11 2026. No macro, syntax, notation, axiom, sorry.
-/
import Derived.Test.Qxb6603016aChecked
import GoSem.Claim
import GoSem.ClaimJoined
import GoSem.ClaimMapViews
import Derived.JoinedTies
import Derived.KernelRfl
namespace Go.Proofs.Qxb6603016a
/- THE CELL 'sum', in the pinned program and in every row, IS THE sha256 OF THE DUMP (.gsa) THAT Qxb6603016aProg.lean LOADS. Nothing in Lean hashes anything: it is a label: what it is worth is what the hold of that sum in a sandbox is worth. -/
noncomputable def Try.pinned : Pinned := { name := "qxb6603016a", sum := "981f26967377285f59bb1387f93ca30fa550b5a268c68d5ced71cdd7f2171be6", checked := Try.checked }
namespace Rows
def none {H : Type} : Left H := { results := [], args := [] }

/-- 'zzlaws_root_b1.FnValidAppIDMatchesModel': WHATEVER THE INPUT: true; the input reads as it did. -/
def fnValidAppIDMatchesModelSpec : ChangeSpec := { name := "fnValidAppIDMatchesModel", fn := fun _ => fun
  | [d] => { results := [.lit (.bool true)], args := [d] }
  | _ => none }
def fnValidAppIDMatchesModelRow : OpenClaim := { program := "qxb6603016a", sum := "981f26967377285f59bb1387f93ca30fa550b5a268c68d5ced71cdd7f2171be6", func := "example.com/tyr/tyr/zzlaws_root_b1.FnValidAppIDMatchesModel", spec := "fnValidAppIDMatchesModel", apart := false }
def FnValidAppIDMatchesModelSaid : Prop := fnValidAppIDMatchesModelRow.holds Try.pinned (OpenSpec.ofChange fnValidAppIDMatchesModelSpec)

/-- ITS FALSE NEIGHBOUR: 'it returns false'. Refute it at one input. -/
def fnValidAppIDMatchesModelWrong : ChangeSpec := { name := "fnValidAppIDMatchesModel", fn := fun _ => fun
  | [d] => { results := [.lit (.bool false)], args := [d] }
  | _ => none }
def FnValidAppIDMatchesModelWrongFalsely : Prop := fnValidAppIDMatchesModelRow.holds Try.pinned (OpenSpec.ofChange fnValidAppIDMatchesModelWrong)

/-- 'zzlaws_root_b1.FnValidAppIDConcat': WHATEVER THE INPUT: true; the input reads as it did. -/
def fnValidAppIDConcatSpec : ChangeSpec := { name := "fnValidAppIDConcat", fn := fun _ => fun
  | [d1, d2] => { results := [.lit (.bool true)], args := [d1, d2] }
  | _ => none }
def fnValidAppIDConcatRow : OpenClaim := { program := "qxb6603016a", sum := "981f26967377285f59bb1387f93ca30fa550b5a268c68d5ced71cdd7f2171be6", func := "example.com/tyr/tyr/zzlaws_root_b1.FnValidAppIDConcat", spec := "fnValidAppIDConcat", apart := false }
def FnValidAppIDConcatSaid : Prop := fnValidAppIDConcatRow.holds Try.pinned (OpenSpec.ofChange fnValidAppIDConcatSpec)

/-- ITS FALSE NEIGHBOUR: 'it returns false'. Refute it at one input. -/
def fnValidAppIDConcatWrong : ChangeSpec := { name := "fnValidAppIDConcat", fn := fun _ => fun
  | [d1, d2] => { results := [.lit (.bool false)], args := [d1, d2] }
  | _ => none }
def FnValidAppIDConcatWrongFalsely : Prop := fnValidAppIDConcatRow.holds Try.pinned (OpenSpec.ofChange fnValidAppIDConcatWrong)

/-- 'zzlaws_root_b1.FnValidMethodMatchesTokenModel': WHATEVER THE INPUT: true; the input reads as it did. -/
def fnValidMethodMatchesTokenModelSpec : ChangeSpec := { name := "fnValidMethodMatchesTokenModel", fn := fun _ => fun
  | [d] => { results := [.lit (.bool true)], args := [d] }
  | _ => none }
def fnValidMethodMatchesTokenModelRow : OpenClaim := { program := "qxb6603016a", sum := "981f26967377285f59bb1387f93ca30fa550b5a268c68d5ced71cdd7f2171be6", func := "example.com/tyr/tyr/zzlaws_root_b1.FnValidMethodMatchesTokenModel", spec := "fnValidMethodMatchesTokenModel", inPlace := ["internal/bytealg.IndexByteString"], apart := false }
def FnValidMethodMatchesTokenModelSaid : Prop := fnValidMethodMatchesTokenModelRow.holds Try.pinned (OpenSpec.ofChange fnValidMethodMatchesTokenModelSpec)

/-- ITS FALSE NEIGHBOUR: 'it returns false'. Refute it at one input. -/
def fnValidMethodMatchesTokenModelWrong : ChangeSpec := { name := "fnValidMethodMatchesTokenModel", fn := fun _ => fun
  | [d] => { results := [.lit (.bool false)], args := [d] }
  | _ => none }
def FnValidMethodMatchesTokenModelWrongFalsely : Prop := fnValidMethodMatchesTokenModelRow.holds Try.pinned (OpenSpec.ofChange fnValidMethodMatchesTokenModelWrong)

/-- 'zzlaws_root_b1.FnValidMethodConcat': WHATEVER THE INPUT: true; the input reads as it did. -/
def fnValidMethodConcatSpec : ChangeSpec := { name := "fnValidMethodConcat", fn := fun _ => fun
  | [d1, d2] => { results := [.lit (.bool true)], args := [d1, d2] }
  | _ => none }
def fnValidMethodConcatRow : OpenClaim := { program := "qxb6603016a", sum := "981f26967377285f59bb1387f93ca30fa550b5a268c68d5ced71cdd7f2171be6", func := "example.com/tyr/tyr/zzlaws_root_b1.FnValidMethodConcat", spec := "fnValidMethodConcat", inPlace := ["internal/bytealg.IndexByteString"], apart := false }
def FnValidMethodConcatSaid : Prop := fnValidMethodConcatRow.holds Try.pinned (OpenSpec.ofChange fnValidMethodConcatSpec)

/-- ITS FALSE NEIGHBOUR: 'it returns false'. Refute it at one input. -/
def fnValidMethodConcatWrong : ChangeSpec := { name := "fnValidMethodConcat", fn := fun _ => fun
  | [d1, d2] => { results := [.lit (.bool false)], args := [d1, d2] }
  | _ => none }
def FnValidMethodConcatWrongFalsely : Prop := fnValidMethodConcatRow.holds Try.pinned (OpenSpec.ofChange fnValidMethodConcatWrong)

/-- 'zzlaws_root_b1.FnValidMethodImpliesValidAppID': WHATEVER THE INPUT: true; the input reads as it did. -/
def fnValidMethodImpliesValidAppIDSpec : ChangeSpec := { name := "fnValidMethodImpliesValidAppID", fn := fun _ => fun
  | [d] => { results := [.lit (.bool true)], args := [d] }
  | _ => none }
def fnValidMethodImpliesValidAppIDRow : OpenClaim := { program := "qxb6603016a", sum := "981f26967377285f59bb1387f93ca30fa550b5a268c68d5ced71cdd7f2171be6", func := "example.com/tyr/tyr/zzlaws_root_b1.FnValidMethodImpliesValidAppID", spec := "fnValidMethodImpliesValidAppID", inPlace := ["internal/bytealg.IndexByteString"], apart := false }
def FnValidMethodImpliesValidAppIDSaid : Prop := fnValidMethodImpliesValidAppIDRow.holds Try.pinned (OpenSpec.ofChange fnValidMethodImpliesValidAppIDSpec)

/-- ITS FALSE NEIGHBOUR: 'it returns false'. Refute it at one input. -/
def fnValidMethodImpliesValidAppIDWrong : ChangeSpec := { name := "fnValidMethodImpliesValidAppID", fn := fun _ => fun
  | [d] => { results := [.lit (.bool false)], args := [d] }
  | _ => none }
def FnValidMethodImpliesValidAppIDWrongFalsely : Prop := fnValidMethodImpliesValidAppIDRow.holds Try.pinned (OpenSpec.ofChange fnValidMethodImpliesValidAppIDWrong)

/-- 'zzlaws_root_b1.FnEqualFoldASCIIMatchesModel': WHATEVER THE INPUT: true; the input reads as it did. -/
def fnEqualFoldASCIIMatchesModelSpec : ChangeSpec := { name := "fnEqualFoldASCIIMatchesModel", fn := fun _ => fun
  | [d1, d2] => { results := [.lit (.bool true)], args := [d1, d2] }
  | _ => none }
def fnEqualFoldASCIIMatchesModelRow : OpenClaim := { program := "qxb6603016a", sum := "981f26967377285f59bb1387f93ca30fa550b5a268c68d5ced71cdd7f2171be6", func := "example.com/tyr/tyr/zzlaws_root_b1.FnEqualFoldASCIIMatchesModel", spec := "fnEqualFoldASCIIMatchesModel", apart := false }
def FnEqualFoldASCIIMatchesModelSaid : Prop := fnEqualFoldASCIIMatchesModelRow.holds Try.pinned (OpenSpec.ofChange fnEqualFoldASCIIMatchesModelSpec)

/-- ITS FALSE NEIGHBOUR: 'it returns false'. Refute it at one input. -/
def fnEqualFoldASCIIMatchesModelWrong : ChangeSpec := { name := "fnEqualFoldASCIIMatchesModel", fn := fun _ => fun
  | [d1, d2] => { results := [.lit (.bool false)], args := [d1, d2] }
  | _ => none }
def FnEqualFoldASCIIMatchesModelWrongFalsely : Prop := fnEqualFoldASCIIMatchesModelRow.holds Try.pinned (OpenSpec.ofChange fnEqualFoldASCIIMatchesModelWrong)

/-- 'zzlaws_root_b1.FnEqualFoldASCIIAgreesWithUpperCompare': WHATEVER THE INPUT: true; the input reads as it did. -/
def fnEqualFoldASCIIAgreesWithUpperCompareSpec : ChangeSpec := { name := "fnEqualFoldASCIIAgreesWithUpperCompare", fn := fun _ => fun
  | [d1, d2] => { results := [.lit (.bool true)], args := [d1, d2] }
  | _ => none }
def fnEqualFoldASCIIAgreesWithUpperCompareRow : OpenClaim := { program := "qxb6603016a", sum := "981f26967377285f59bb1387f93ca30fa550b5a268c68d5ced71cdd7f2171be6", func := "example.com/tyr/tyr/zzlaws_root_b1.FnEqualFoldASCIIAgreesWithUpperCompare", spec := "fnEqualFoldASCIIAgreesWithUpperCompare", apart := false }
def FnEqualFoldASCIIAgreesWithUpperCompareSaid : Prop := fnEqualFoldASCIIAgreesWithUpperCompareRow.holds Try.pinned (OpenSpec.ofChange fnEqualFoldASCIIAgreesWithUpperCompareSpec)

/-- ITS FALSE NEIGHBOUR: 'it returns false'. Refute it at one input. -/
def fnEqualFoldASCIIAgreesWithUpperCompareWrong : ChangeSpec := { name := "fnEqualFoldASCIIAgreesWithUpperCompare", fn := fun _ => fun
  | [d1, d2] => { results := [.lit (.bool false)], args := [d1, d2] }
  | _ => none }
def FnEqualFoldASCIIAgreesWithUpperCompareWrongFalsely : Prop := fnEqualFoldASCIIAgreesWithUpperCompareRow.holds Try.pinned (OpenSpec.ofChange fnEqualFoldASCIIAgreesWithUpperCompareWrong)

/-- 'zzlaws_root_b1.FnEqualFoldASCIIIsEquivalence': WHATEVER THE INPUT: true; the input reads as it did. -/
def fnEqualFoldASCIIIsEquivalenceSpec : ChangeSpec := { name := "fnEqualFoldASCIIIsEquivalence", fn := fun _ => fun
  | [d1, d2, d3] => { results := [.lit (.bool true)], args := [d1, d2, d3] }
  | _ => none }
def fnEqualFoldASCIIIsEquivalenceRow : OpenClaim := { program := "qxb6603016a", sum := "981f26967377285f59bb1387f93ca30fa550b5a268c68d5ced71cdd7f2171be6", func := "example.com/tyr/tyr/zzlaws_root_b1.FnEqualFoldASCIIIsEquivalence", spec := "fnEqualFoldASCIIIsEquivalence", apart := false }
def FnEqualFoldASCIIIsEquivalenceSaid : Prop := fnEqualFoldASCIIIsEquivalenceRow.holds Try.pinned (OpenSpec.ofChange fnEqualFoldASCIIIsEquivalenceSpec)

/-- ITS FALSE NEIGHBOUR: 'it returns false'. Refute it at one input. -/
def fnEqualFoldASCIIIsEquivalenceWrong : ChangeSpec := { name := "fnEqualFoldASCIIIsEquivalence", fn := fun _ => fun
  | [d1, d2, d3] => { results := [.lit (.bool false)], args := [d1, d2, d3] }
  | _ => none }
def FnEqualFoldASCIIIsEquivalenceWrongFalsely : Prop := fnEqualFoldASCIIIsEquivalenceRow.holds Try.pinned (OpenSpec.ofChange fnEqualFoldASCIIIsEquivalenceWrong)

end Rows
end Go.Proofs.Qxb6603016a
