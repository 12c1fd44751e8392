/-
  No cell of these rows narrows 'for every input' (looked for: loops, veiled, ifaces, maps, wideKeys, modest, calm, conditions, laid).
  DERIVED. THE GIVEN ROWS OF THIS SEAT. 4 by the template 'for every input the law returns true; each argument reads behind the call as it read before'; 0 by the template 'total and deterministic' (their statements: Qxb6603042aTotals.lean).
  GIVEN WITH THE SEED: the statements are not yours to turn. If you find one false, say at which input.
  Laid BY PROGRAM, IN A SANDBOX (cutbox-rows.mjs): the forced cells as the released guide's own fill.sh prints them over the translation 419bd35a96a5d211… (all of the seat's roots in one cut). By AI agents, Wed Nov 11 2026. No macro, syntax, notation, axiom, sorry.
-/
import Derived.Test.Qxb6603042aChecked
import GoSem.Claim
import GoSem.ClaimJoined
import GoSem.ClaimMapViews
import Derived.JoinedTies
import Derived.KernelRfl
namespace Go.Proofs.Qxb6603042a
/- THE CELL 'sum', in the pinned program and in every row, IS THE sha256 OF THE DUMP (.gsa) THAT Qxb6603042aProg.lean LOADS. Nothing in Lean hashes anything: it is a label: what it is worth is what the hold of that sum in a sandbox is worth. -/
noncomputable def Try.pinned : Pinned := { name := "qxb6603042a", sum := "419bd35a96a5d211648cb79fad82bf78d4b3942899ec8db6ea7855a3328f67f0", checked := Try.checked }
namespace Rows
def none {H : Type} : Left H := { results := [], args := [] }

/-- 'zzlaws_internal_policy_b1.FnPatternMeetsLiteralNameIffGlobMatches': WHATEVER THE INPUT: true; the input reads as it did. -/
def fnPatternMeetsLiteralNameIffGlobMatchesSpec : ChangeSpec := { name := "fnPatternMeetsLiteralNameIffGlobMatches", fn := fun _ => fun
  | [d1, d2] => { results := [.lit (.bool true)], args := [d1, d2] }
  | _ => none }
def fnPatternMeetsLiteralNameIffGlobMatchesRow : OpenClaim := { program := "qxb6603042a", sum := "419bd35a96a5d211648cb79fad82bf78d4b3942899ec8db6ea7855a3328f67f0", func := "example.com/mlinzi/mlinzi/zzlaws_internal_policy_b1.FnPatternMeetsLiteralNameIffGlobMatches", spec := "fnPatternMeetsLiteralNameIffGlobMatches", inPlace := ["internal/bytealg.IndexByteString"], unfollowed := true, recurses := true, apart := false }
def FnPatternMeetsLiteralNameIffGlobMatchesSaid : Prop := fnPatternMeetsLiteralNameIffGlobMatchesRow.holds Try.pinned (OpenSpec.ofChange fnPatternMeetsLiteralNameIffGlobMatchesSpec)

/-- ITS FALSE NEIGHBOUR: 'it returns false'. Refute it at one input. -/
def fnPatternMeetsLiteralNameIffGlobMatchesWrong : ChangeSpec := { name := "fnPatternMeetsLiteralNameIffGlobMatches", fn := fun _ => fun
  | [d1, d2] => { results := [.lit (.bool false)], args := [d1, d2] }
  | _ => none }
def FnPatternMeetsLiteralNameIffGlobMatchesWrongFalsely : Prop := fnPatternMeetsLiteralNameIffGlobMatchesRow.holds Try.pinned (OpenSpec.ofChange fnPatternMeetsLiteralNameIffGlobMatchesWrong)

/-- 'zzlaws_internal_policy_b1.FnPatternMeetsIsSymmetric': WHATEVER THE INPUT: true; the input reads as it did. -/
def fnPatternMeetsIsSymmetricSpec : ChangeSpec := { name := "fnPatternMeetsIsSymmetric", fn := fun _ => fun
  | [d1, d2] => { results := [.lit (.bool true)], args := [d1, d2] }
  | _ => none }
def fnPatternMeetsIsSymmetricRow : OpenClaim := { program := "qxb6603042a", sum := "419bd35a96a5d211648cb79fad82bf78d4b3942899ec8db6ea7855a3328f67f0", func := "example.com/mlinzi/mlinzi/zzlaws_internal_policy_b1.FnPatternMeetsIsSymmetric", spec := "fnPatternMeetsIsSymmetric", inPlace := ["internal/bytealg.IndexByteString"], unfollowed := true, recurses := true, apart := false }
def FnPatternMeetsIsSymmetricSaid : Prop := fnPatternMeetsIsSymmetricRow.holds Try.pinned (OpenSpec.ofChange fnPatternMeetsIsSymmetricSpec)

/-- ITS FALSE NEIGHBOUR: 'it returns false'. Refute it at one input. -/
def fnPatternMeetsIsSymmetricWrong : ChangeSpec := { name := "fnPatternMeetsIsSymmetric", fn := fun _ => fun
  | [d1, d2] => { results := [.lit (.bool false)], args := [d1, d2] }
  | _ => none }
def FnPatternMeetsIsSymmetricWrongFalsely : Prop := fnPatternMeetsIsSymmetricRow.holds Try.pinned (OpenSpec.ofChange fnPatternMeetsIsSymmetricWrong)

/-- 'zzlaws_internal_policy_b1.FnPatternMeetsItself': WHATEVER THE INPUT: true; the input reads as it did. -/
def fnPatternMeetsItselfSpec : ChangeSpec := { name := "fnPatternMeetsItself", fn := fun _ => fun
  | [d] => { results := [.lit (.bool true)], args := [d] }
  | _ => none }
def fnPatternMeetsItselfRow : OpenClaim := { program := "qxb6603042a", sum := "419bd35a96a5d211648cb79fad82bf78d4b3942899ec8db6ea7855a3328f67f0", func := "example.com/mlinzi/mlinzi/zzlaws_internal_policy_b1.FnPatternMeetsItself", spec := "fnPatternMeetsItself", inPlace := ["internal/bytealg.IndexByteString"], unfollowed := true, recurses := true, apart := false }
def FnPatternMeetsItselfSaid : Prop := fnPatternMeetsItselfRow.holds Try.pinned (OpenSpec.ofChange fnPatternMeetsItselfSpec)

/-- ITS FALSE NEIGHBOUR: 'it returns false'. Refute it at one input. -/
def fnPatternMeetsItselfWrong : ChangeSpec := { name := "fnPatternMeetsItself", fn := fun _ => fun
  | [d] => { results := [.lit (.bool false)], args := [d] }
  | _ => none }
def FnPatternMeetsItselfWrongFalsely : Prop := fnPatternMeetsItselfRow.holds Try.pinned (OpenSpec.ofChange fnPatternMeetsItselfWrong)

/-- 'zzlaws_internal_policy_b1.FnCompilePatternIsCanonicalAndRendersBack': WHATEVER THE INPUT: true; the input reads as it did. -/
def fnCompilePatternIsCanonicalAndRendersBackSpec : ChangeSpec := { name := "fnCompilePatternIsCanonicalAndRendersBack", fn := fun _ => fun
  | [d] => { results := [.lit (.bool true)], args := [d] }
  | _ => none }
def fnCompilePatternIsCanonicalAndRendersBackRow : OpenClaim := { program := "qxb6603042a", sum := "419bd35a96a5d211648cb79fad82bf78d4b3942899ec8db6ea7855a3328f67f0", func := "example.com/mlinzi/mlinzi/zzlaws_internal_policy_b1.FnCompilePatternIsCanonicalAndRendersBack", spec := "fnCompilePatternIsCanonicalAndRendersBack", inPlace := ["internal/bytealg.IndexByteString"], apart := false }
def FnCompilePatternIsCanonicalAndRendersBackSaid : Prop := fnCompilePatternIsCanonicalAndRendersBackRow.holds Try.pinned (OpenSpec.ofChange fnCompilePatternIsCanonicalAndRendersBackSpec)

/-- ITS FALSE NEIGHBOUR: 'it returns false'. Refute it at one input. -/
def fnCompilePatternIsCanonicalAndRendersBackWrong : ChangeSpec := { name := "fnCompilePatternIsCanonicalAndRendersBack", fn := fun _ => fun
  | [d] => { results := [.lit (.bool false)], args := [d] }
  | _ => none }
def FnCompilePatternIsCanonicalAndRendersBackWrongFalsely : Prop := fnCompilePatternIsCanonicalAndRendersBackRow.holds Try.pinned (OpenSpec.ofChange fnCompilePatternIsCanonicalAndRendersBackWrong)

end Rows
end Go.Proofs.Qxb6603042a
