/-
  No cell of these rows narrows 'for every input' (looked for: loops, veiled, ifaces, maps, wideKeys, modest, calm, conditions, laid).
  DERIVED. THE GIVEN ROWS OF THIS SEAT. 7 by the template 'for every input the law returns true; each argument reads behind the call as it read before'; 0 by the template 'total and deterministic' (their statements: Qxb6601938aTotals.lean).
  GIVEN WITH THE SEED: the statements are not yours to turn. If you find one false, say at which input.
  Laid BY PROGRAM, IN A SANDBOX (cutbox-rows.mjs): the forced cells as the released guide's own fill.sh prints them over the translation 9220e509feb07968… (all of the seat's roots in one cut). By AI agents, Wed Nov 11 2026. No macro, syntax, notation, axiom, sorry.
-/
import Derived.Test.Qxb6601938aChecked
import GoSem.Claim
import GoSem.ClaimJoined
import GoSem.ClaimMapViews
import Derived.JoinedTies
import Derived.KernelRfl
namespace Go.Proofs.Qxb6601938a
/- THE CELL 'sum', in the pinned program and in every row, IS THE sha256 OF THE DUMP (.gsa) THAT Qxb6601938aProg.lean LOADS. Nothing in Lean hashes anything: it is a label: what it is worth is what the hold of that sum in a sandbox is worth. -/
noncomputable def Try.pinned : Pinned := { name := "qxb6601938a", sum := "9220e509feb079689ca163a5102b9e683dd1ad8d32abda10323170ecc1f8ba92", checked := Try.checked }
namespace Rows
def none {H : Type} : Left H := { results := [], args := [] }

/-- 'zzlaws_root_b1.FnClassifyMatchesCaseTable': WHATEVER THE INPUT: true; the input reads as it did. -/
def fnClassifyMatchesCaseTableSpec : ChangeSpec := { name := "fnClassifyMatchesCaseTable", fn := fun _ => fun
  | [d] => { results := [.lit (.bool true)], args := [d] }
  | _ => none }
def fnClassifyMatchesCaseTableRow : OpenClaim := { program := "qxb6601938a", sum := "9220e509feb079689ca163a5102b9e683dd1ad8d32abda10323170ecc1f8ba92", func := "example.com/isograph/isograph/zzlaws_root_b1.FnClassifyMatchesCaseTable", spec := "fnClassifyMatchesCaseTable", apart := false }
def FnClassifyMatchesCaseTableSaid : Prop := fnClassifyMatchesCaseTableRow.holds Try.pinned (OpenSpec.ofChange fnClassifyMatchesCaseTableSpec)

/-- ITS FALSE NEIGHBOUR: 'it returns false'. Refute it at one input. -/
def fnClassifyMatchesCaseTableWrong : ChangeSpec := { name := "fnClassifyMatchesCaseTable", fn := fun _ => fun
  | [d] => { results := [.lit (.bool false)], args := [d] }
  | _ => none }
def FnClassifyMatchesCaseTableWrongFalsely : Prop := fnClassifyMatchesCaseTableRow.holds Try.pinned (OpenSpec.ofChange fnClassifyMatchesCaseTableWrong)

/-- 'zzlaws_root_b1.FnClassifyIgnoresWhereTheCycleStarts': WHATEVER THE INPUT: true; the input reads as it did. -/
def fnClassifyIgnoresWhereTheCycleStartsSpec : ChangeSpec := { name := "fnClassifyIgnoresWhereTheCycleStarts", fn := fun _ => fun
  | [d1, d2] => { results := [.lit (.bool true)], args := [d1, d2] }
  | _ => none }
def fnClassifyIgnoresWhereTheCycleStartsRow : OpenClaim := { program := "qxb6601938a", sum := "9220e509feb079689ca163a5102b9e683dd1ad8d32abda10323170ecc1f8ba92", func := "example.com/isograph/isograph/zzlaws_root_b1.FnClassifyIgnoresWhereTheCycleStarts", spec := "fnClassifyIgnoresWhereTheCycleStarts", apart := false }
def FnClassifyIgnoresWhereTheCycleStartsSaid : Prop := fnClassifyIgnoresWhereTheCycleStartsRow.holds Try.pinned (OpenSpec.ofChange fnClassifyIgnoresWhereTheCycleStartsSpec)

/-- ITS FALSE NEIGHBOUR: 'it returns false'. Refute it at one input. -/
def fnClassifyIgnoresWhereTheCycleStartsWrong : ChangeSpec := { name := "fnClassifyIgnoresWhereTheCycleStarts", fn := fun _ => fun
  | [d1, d2] => { results := [.lit (.bool false)], args := [d1, d2] }
  | _ => none }
def FnClassifyIgnoresWhereTheCycleStartsWrongFalsely : Prop := fnClassifyIgnoresWhereTheCycleStartsRow.holds Try.pinned (OpenSpec.ofChange fnClassifyIgnoresWhereTheCycleStartsWrong)

/-- 'zzlaws_root_b1.FnClassifyNeverFallsWhenAnArcJoins': WHATEVER THE INPUT: true; the input reads as it did. -/
def fnClassifyNeverFallsWhenAnArcJoinsSpec : ChangeSpec := { name := "fnClassifyNeverFallsWhenAnArcJoins", fn := fun _ => fun
  | [d1, d2, d3] => { results := [.lit (.bool true)], args := [d1, d2, d3] }
  | _ => none }
def fnClassifyNeverFallsWhenAnArcJoinsRow : OpenClaim := { program := "qxb6601938a", sum := "9220e509feb079689ca163a5102b9e683dd1ad8d32abda10323170ecc1f8ba92", func := "example.com/isograph/isograph/zzlaws_root_b1.FnClassifyNeverFallsWhenAnArcJoins", spec := "fnClassifyNeverFallsWhenAnArcJoins", apart := false }
def FnClassifyNeverFallsWhenAnArcJoinsSaid : Prop := fnClassifyNeverFallsWhenAnArcJoinsRow.holds Try.pinned (OpenSpec.ofChange fnClassifyNeverFallsWhenAnArcJoinsSpec)

/-- ITS FALSE NEIGHBOUR: 'it returns false'. Refute it at one input. -/
def fnClassifyNeverFallsWhenAnArcJoinsWrong : ChangeSpec := { name := "fnClassifyNeverFallsWhenAnArcJoins", fn := fun _ => fun
  | [d1, d2, d3] => { results := [.lit (.bool false)], args := [d1, d2, d3] }
  | _ => none }
def FnClassifyNeverFallsWhenAnArcJoinsWrongFalsely : Prop := fnClassifyNeverFallsWhenAnArcJoinsRow.holds Try.pinned (OpenSpec.ofChange fnClassifyNeverFallsWhenAnArcJoinsWrong)

/-- 'zzlaws_root_b1.FnSameWritesMatchesFilteredComparison': WHATEVER THE INPUT: true; the input reads as it did. -/
def fnSameWritesMatchesFilteredComparisonSpec : ChangeSpec := { name := "fnSameWritesMatchesFilteredComparison", fn := fun _ => fun
  | [d1, d2] => { results := [.lit (.bool true)], args := [d1, d2] }
  | _ => none }
def fnSameWritesMatchesFilteredComparisonRow : OpenClaim := { program := "qxb6601938a", sum := "9220e509feb079689ca163a5102b9e683dd1ad8d32abda10323170ecc1f8ba92", func := "example.com/isograph/isograph/zzlaws_root_b1.FnSameWritesMatchesFilteredComparison", spec := "fnSameWritesMatchesFilteredComparison", apart := false }
def FnSameWritesMatchesFilteredComparisonSaid : Prop := fnSameWritesMatchesFilteredComparisonRow.holds Try.pinned (OpenSpec.ofChange fnSameWritesMatchesFilteredComparisonSpec)

/-- ITS FALSE NEIGHBOUR: 'it returns false'. Refute it at one input. -/
def fnSameWritesMatchesFilteredComparisonWrong : ChangeSpec := { name := "fnSameWritesMatchesFilteredComparison", fn := fun _ => fun
  | [d1, d2] => { results := [.lit (.bool false)], args := [d1, d2] }
  | _ => none }
def FnSameWritesMatchesFilteredComparisonWrongFalsely : Prop := fnSameWritesMatchesFilteredComparisonRow.holds Try.pinned (OpenSpec.ofChange fnSameWritesMatchesFilteredComparisonWrong)

/-- 'zzlaws_root_b1.FnSameWritesIsReflexiveAndSymmetric': WHATEVER THE INPUT: true; the input reads as it did. -/
def fnSameWritesIsReflexiveAndSymmetricSpec : ChangeSpec := { name := "fnSameWritesIsReflexiveAndSymmetric", fn := fun _ => fun
  | [d1, d2] => { results := [.lit (.bool true)], args := [d1, d2] }
  | _ => none }
def fnSameWritesIsReflexiveAndSymmetricRow : OpenClaim := { program := "qxb6601938a", sum := "9220e509feb079689ca163a5102b9e683dd1ad8d32abda10323170ecc1f8ba92", func := "example.com/isograph/isograph/zzlaws_root_b1.FnSameWritesIsReflexiveAndSymmetric", spec := "fnSameWritesIsReflexiveAndSymmetric", apart := false }
def FnSameWritesIsReflexiveAndSymmetricSaid : Prop := fnSameWritesIsReflexiveAndSymmetricRow.holds Try.pinned (OpenSpec.ofChange fnSameWritesIsReflexiveAndSymmetricSpec)

/-- ITS FALSE NEIGHBOUR: 'it returns false'. Refute it at one input. -/
def fnSameWritesIsReflexiveAndSymmetricWrong : ChangeSpec := { name := "fnSameWritesIsReflexiveAndSymmetric", fn := fun _ => fun
  | [d1, d2] => { results := [.lit (.bool false)], args := [d1, d2] }
  | _ => none }
def FnSameWritesIsReflexiveAndSymmetricWrongFalsely : Prop := fnSameWritesIsReflexiveAndSymmetricRow.holds Try.pinned (OpenSpec.ofChange fnSameWritesIsReflexiveAndSymmetricWrong)

/-- 'zzlaws_root_b1.FnSameWritesIsTransitive': WHATEVER THE INPUT: true; the input reads as it did. -/
def fnSameWritesIsTransitiveSpec : ChangeSpec := { name := "fnSameWritesIsTransitive", fn := fun _ => fun
  | [d1, d2, d3] => { results := [.lit (.bool true)], args := [d1, d2, d3] }
  | _ => none }
def fnSameWritesIsTransitiveRow : OpenClaim := { program := "qxb6601938a", sum := "9220e509feb079689ca163a5102b9e683dd1ad8d32abda10323170ecc1f8ba92", func := "example.com/isograph/isograph/zzlaws_root_b1.FnSameWritesIsTransitive", spec := "fnSameWritesIsTransitive", apart := false }
def FnSameWritesIsTransitiveSaid : Prop := fnSameWritesIsTransitiveRow.holds Try.pinned (OpenSpec.ofChange fnSameWritesIsTransitiveSpec)

/-- ITS FALSE NEIGHBOUR: 'it returns false'. Refute it at one input. -/
def fnSameWritesIsTransitiveWrong : ChangeSpec := { name := "fnSameWritesIsTransitive", fn := fun _ => fun
  | [d1, d2, d3] => { results := [.lit (.bool false)], args := [d1, d2, d3] }
  | _ => none }
def FnSameWritesIsTransitiveWrongFalsely : Prop := fnSameWritesIsTransitiveRow.holds Try.pinned (OpenSpec.ofChange fnSameWritesIsTransitiveWrong)

/-- 'zzlaws_root_b1.FnClaimActsAsAnOwnershipMap': WHATEVER THE INPUT: true; the input reads as it did. -/
def fnClaimActsAsAnOwnershipMapSpec : ChangeSpec := { name := "fnClaimActsAsAnOwnershipMap", fn := fun _ => fun
  | [d] => { results := [.lit (.bool true)], args := [d] }
  | _ => none }
def fnClaimActsAsAnOwnershipMapRow : OpenClaim := { program := "qxb6601938a", sum := "9220e509feb079689ca163a5102b9e683dd1ad8d32abda10323170ecc1f8ba92", func := "example.com/isograph/isograph/zzlaws_root_b1.FnClaimActsAsAnOwnershipMap", spec := "fnClaimActsAsAnOwnershipMap", apart := false }
def FnClaimActsAsAnOwnershipMapSaid : Prop := fnClaimActsAsAnOwnershipMapRow.holds Try.pinned (OpenSpec.ofChange fnClaimActsAsAnOwnershipMapSpec)

/-- ITS FALSE NEIGHBOUR: 'it returns false'. Refute it at one input. -/
def fnClaimActsAsAnOwnershipMapWrong : ChangeSpec := { name := "fnClaimActsAsAnOwnershipMap", fn := fun _ => fun
  | [d] => { results := [.lit (.bool false)], args := [d] }
  | _ => none }
def FnClaimActsAsAnOwnershipMapWrongFalsely : Prop := fnClaimActsAsAnOwnershipMapRow.holds Try.pinned (OpenSpec.ofChange fnClaimActsAsAnOwnershipMapWrong)

end Rows
end Go.Proofs.Qxb6601938a
