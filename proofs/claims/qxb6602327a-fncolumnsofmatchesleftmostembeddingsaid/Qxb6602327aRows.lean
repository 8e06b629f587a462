/-
  No cell of these rows narrows 'for every input' (looked for: loops, veiled, ifaces, maps, wideKeys, modest, calm, conditions, laid).
  DERIVED. THE GIVEN ROWS OF THIS SEAT. 3 by the template 'for every input the law returns true; each argument reads behind the call as it read before'; 0 by the template 'total and deterministic' (their statements: Qxb6602327aTotals.lean).
  GIVEN WITH THE SEED: the statements are not yours to turn. If you find one false, say at which input.
  Laid BY PROGRAM, IN A SANDBOX (cutbox-rows.mjs): the forced cells as the released guide's own fill.sh prints them over the translation 0169b71c186dc2fb… (all of the seat's roots in one cut). By AI agents, Wed Nov 11 2026. No macro, syntax, notation, axiom, sorry.
-/
import Derived.Test.Qxb6602327aChecked
import GoSem.Claim
import GoSem.ClaimJoined
import GoSem.ClaimMapViews
import Derived.JoinedTies
import Derived.KernelRfl
namespace Go.Proofs.Qxb6602327a
/- THE CELL 'sum', in the pinned program and in every row, IS THE sha256 OF THE DUMP (.gsa) THAT Qxb6602327aProg.lean LOADS. Nothing in Lean hashes anything: it is a label: what it is worth is what the hold of that sum in a sandbox is worth. -/
noncomputable def Try.pinned : Pinned := { name := "qxb6602327a", sum := "0169b71c186dc2fb141451f90689ac517f29c4e2369cd12c13c728e81e436982", checked := Try.checked }
namespace Rows
def none {H : Type} : Left H := { results := [], args := [] }

/-- 'zzlaws_internal_csvfile_b1.FnColumnsOfMatchesLeftmostEmbedding': WHATEVER THE INPUT: true; the input reads as it did. -/
def fnColumnsOfMatchesLeftmostEmbeddingSpec : ChangeSpec := { name := "fnColumnsOfMatchesLeftmostEmbedding", fn := fun _ => fun
  | [d1, d2, d3] => { results := [.lit (.bool true)], args := [d1, d2, d3] }
  | _ => none }
def fnColumnsOfMatchesLeftmostEmbeddingRow : OpenClaim := { program := "qxb6602327a", sum := "0169b71c186dc2fb141451f90689ac517f29c4e2369cd12c13c728e81e436982", func := "example.com/zhaomu/zhaomu/zzlaws_internal_csvfile_b1.FnColumnsOfMatchesLeftmostEmbedding", spec := "fnColumnsOfMatchesLeftmostEmbedding", apart := false }
def FnColumnsOfMatchesLeftmostEmbeddingSaid : Prop := fnColumnsOfMatchesLeftmostEmbeddingRow.holds Try.pinned (OpenSpec.ofChange fnColumnsOfMatchesLeftmostEmbeddingSpec)

/-- ITS FALSE NEIGHBOUR: 'it returns false'. Refute it at one input. -/
def fnColumnsOfMatchesLeftmostEmbeddingWrong : ChangeSpec := { name := "fnColumnsOfMatchesLeftmostEmbedding", fn := fun _ => fun
  | [d1, d2, d3] => { results := [.lit (.bool false)], args := [d1, d2, d3] }
  | _ => none }
def FnColumnsOfMatchesLeftmostEmbeddingWrongFalsely : Prop := fnColumnsOfMatchesLeftmostEmbeddingRow.holds Try.pinned (OpenSpec.ofChange fnColumnsOfMatchesLeftmostEmbeddingWrong)

/-- 'zzlaws_internal_csvfile_b1.FnColumnsOfLooserOptionalKeepsAnswer': WHATEVER THE INPUT: true; the input reads as it did. -/
def fnColumnsOfLooserOptionalKeepsAnswerSpec : ChangeSpec := { name := "fnColumnsOfLooserOptionalKeepsAnswer", fn := fun _ => fun
  | [d1, d2, d3] => { results := [.lit (.bool true)], args := [d1, d2, d3] }
  | _ => none }
def fnColumnsOfLooserOptionalKeepsAnswerRow : OpenClaim := { program := "qxb6602327a", sum := "0169b71c186dc2fb141451f90689ac517f29c4e2369cd12c13c728e81e436982", func := "example.com/zhaomu/zhaomu/zzlaws_internal_csvfile_b1.FnColumnsOfLooserOptionalKeepsAnswer", spec := "fnColumnsOfLooserOptionalKeepsAnswer", apart := false }
def FnColumnsOfLooserOptionalKeepsAnswerSaid : Prop := fnColumnsOfLooserOptionalKeepsAnswerRow.holds Try.pinned (OpenSpec.ofChange fnColumnsOfLooserOptionalKeepsAnswerSpec)

/-- ITS FALSE NEIGHBOUR: 'it returns false'. Refute it at one input. -/
def fnColumnsOfLooserOptionalKeepsAnswerWrong : ChangeSpec := { name := "fnColumnsOfLooserOptionalKeepsAnswer", fn := fun _ => fun
  | [d1, d2, d3] => { results := [.lit (.bool false)], args := [d1, d2, d3] }
  | _ => none }
def FnColumnsOfLooserOptionalKeepsAnswerWrongFalsely : Prop := fnColumnsOfLooserOptionalKeepsAnswerRow.holds Try.pinned (OpenSpec.ofChange fnColumnsOfLooserOptionalKeepsAnswerWrong)

/-- 'zzlaws_internal_csvfile_b1.FnColumnsOfAcceptsTrimmedHeader': WHATEVER THE INPUT: true; the input reads as it did. -/
def fnColumnsOfAcceptsTrimmedHeaderSpec : ChangeSpec := { name := "fnColumnsOfAcceptsTrimmedHeader", fn := fun _ => fun
  | [d1, d2, d3] => { results := [.lit (.bool true)], args := [d1, d2, d3] }
  | _ => none }
def fnColumnsOfAcceptsTrimmedHeaderRow : OpenClaim := { program := "qxb6602327a", sum := "0169b71c186dc2fb141451f90689ac517f29c4e2369cd12c13c728e81e436982", func := "example.com/zhaomu/zhaomu/zzlaws_internal_csvfile_b1.FnColumnsOfAcceptsTrimmedHeader", spec := "fnColumnsOfAcceptsTrimmedHeader", apart := false }
def FnColumnsOfAcceptsTrimmedHeaderSaid : Prop := fnColumnsOfAcceptsTrimmedHeaderRow.holds Try.pinned (OpenSpec.ofChange fnColumnsOfAcceptsTrimmedHeaderSpec)

/-- ITS FALSE NEIGHBOUR: 'it returns false'. Refute it at one input. -/
def fnColumnsOfAcceptsTrimmedHeaderWrong : ChangeSpec := { name := "fnColumnsOfAcceptsTrimmedHeader", fn := fun _ => fun
  | [d1, d2, d3] => { results := [.lit (.bool false)], args := [d1, d2, d3] }
  | _ => none }
def FnColumnsOfAcceptsTrimmedHeaderWrongFalsely : Prop := fnColumnsOfAcceptsTrimmedHeaderRow.holds Try.pinned (OpenSpec.ofChange fnColumnsOfAcceptsTrimmedHeaderWrong)

end Rows
end Go.Proofs.Qxb6602327a
