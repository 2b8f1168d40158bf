/-
  No cell of these rows narrows 'for every input' (looked for: loops, veiled, ifaces, maps, wideKeys, modest, calm, conditions, laid).
  DERIVED. THE GIVEN ROWS OF THIS SEAT. 3 by the template 'for every input the law returns true; each argument reads behind the call as it read before'; 0 by the template 'total and deterministic' (their statements: Qxb6606156aTotals.lean).
  GIVEN WITH THE SEED: the statements are not yours to turn. If you find one false, say at which input.
  Laid BY PROGRAM, IN A SANDBOX (cutbox-rows.mjs): the forced cells as the released guide's own fill.sh prints them over the translation e3f6f9e1d7f1891c… (all of the seat's roots in one cut). By AI agents, Wed Nov 11 2026. No macro, syntax, notation, axiom, sorry.
-/
import Derived.Test.Qxb6606156aChecked
import GoSem.Claim
import GoSem.ClaimJoined
import GoSem.ClaimMapViews
import Derived.JoinedTies
import Derived.KernelRfl
namespace Go.Proofs.Qxb6606156a
/- THE CELL 'sum', in the pinned program and in every row, IS THE sha256 OF THE DUMP (.gsa) THAT Qxb6606156aProg.lean LOADS. Nothing in Lean hashes anything: it is a label: what it is worth is what the hold of that sum in a sandbox is worth. -/
noncomputable def Try.pinned : Pinned := { name := "qxb6606156a", sum := "e3f6f9e1d7f1891cdf07848d4c711fbc81a5b4b5138b9e9a8f79943cedc33393", checked := Try.checked }
namespace Rows
def none {H : Type} : Left H := { results := [], args := [] }

/-- 'zzlaws_internal_limit_b1.FnMatchPatternAgreesWithModel': WHATEVER THE INPUT: true; the input reads as it did. -/
def fnMatchPatternAgreesWithModelSpec : ChangeSpec := { name := "fnMatchPatternAgreesWithModel", fn := fun _ => fun
  | [d1, d2] => { results := [.lit (.bool true)], args := [d1, d2] }
  | _ => none }
def fnMatchPatternAgreesWithModelRow : OpenClaim := { program := "qxb6606156a", sum := "e3f6f9e1d7f1891cdf07848d4c711fbc81a5b4b5138b9e9a8f79943cedc33393", func := "example.com/descriptor-to-verdict/descriptor-to-verdict/zzlaws_internal_limit_b1.FnMatchPatternAgreesWithModel", spec := "fnMatchPatternAgreesWithModel", inPlace := ["internal/bytealg.IndexByteString", "internal/bytealg.IndexString"], named := ["internal/bytealg.MaxLen"], apart := false }
def FnMatchPatternAgreesWithModelSaid : Prop := fnMatchPatternAgreesWithModelRow.holds Try.pinned (OpenSpec.ofChange fnMatchPatternAgreesWithModelSpec)

/-- ITS FALSE NEIGHBOUR: 'it returns false'. Refute it at one input. -/
def fnMatchPatternAgreesWithModelWrong : ChangeSpec := { name := "fnMatchPatternAgreesWithModel", fn := fun _ => fun
  | [d1, d2] => { results := [.lit (.bool false)], args := [d1, d2] }
  | _ => none }
def FnMatchPatternAgreesWithModelWrongFalsely : Prop := fnMatchPatternAgreesWithModelRow.holds Try.pinned (OpenSpec.ofChange fnMatchPatternAgreesWithModelWrong)

/-- 'zzlaws_internal_limit_b1.FnMatchPatternEveryFillingMatches': WHATEVER THE INPUT: true; the input reads as it did. -/
def fnMatchPatternEveryFillingMatchesSpec : ChangeSpec := { name := "fnMatchPatternEveryFillingMatches", fn := fun _ => fun
  | [d1, d2] => { results := [.lit (.bool true)], args := [d1, d2] }
  | _ => none }
def fnMatchPatternEveryFillingMatchesRow : OpenClaim := { program := "qxb6606156a", sum := "e3f6f9e1d7f1891cdf07848d4c711fbc81a5b4b5138b9e9a8f79943cedc33393", func := "example.com/descriptor-to-verdict/descriptor-to-verdict/zzlaws_internal_limit_b1.FnMatchPatternEveryFillingMatches", spec := "fnMatchPatternEveryFillingMatches", inPlace := ["internal/bytealg.IndexByteString", "internal/bytealg.IndexString"], named := ["internal/bytealg.MaxLen"], apart := false }
def FnMatchPatternEveryFillingMatchesSaid : Prop := fnMatchPatternEveryFillingMatchesRow.holds Try.pinned (OpenSpec.ofChange fnMatchPatternEveryFillingMatchesSpec)

/-- ITS FALSE NEIGHBOUR: 'it returns false'. Refute it at one input. -/
def fnMatchPatternEveryFillingMatchesWrong : ChangeSpec := { name := "fnMatchPatternEveryFillingMatches", fn := fun _ => fun
  | [d1, d2] => { results := [.lit (.bool false)], args := [d1, d2] }
  | _ => none }
def FnMatchPatternEveryFillingMatchesWrongFalsely : Prop := fnMatchPatternEveryFillingMatchesRow.holds Try.pinned (OpenSpec.ofChange fnMatchPatternEveryFillingMatchesWrong)

/-- 'zzlaws_internal_limit_b1.FnMatchPatternStarInsertionKeepsMatch': WHATEVER THE INPUT: true; the input reads as it did. -/
def fnMatchPatternStarInsertionKeepsMatchSpec : ChangeSpec := { name := "fnMatchPatternStarInsertionKeepsMatch", fn := fun _ => fun
  | [d1, d2, d3] => { results := [.lit (.bool true)], args := [d1, d2, d3] }
  | _ => none }
def fnMatchPatternStarInsertionKeepsMatchRow : OpenClaim := { program := "qxb6606156a", sum := "e3f6f9e1d7f1891cdf07848d4c711fbc81a5b4b5138b9e9a8f79943cedc33393", func := "example.com/descriptor-to-verdict/descriptor-to-verdict/zzlaws_internal_limit_b1.FnMatchPatternStarInsertionKeepsMatch", spec := "fnMatchPatternStarInsertionKeepsMatch", inPlace := ["internal/bytealg.IndexByteString", "internal/bytealg.IndexString"], named := ["internal/bytealg.MaxLen"], apart := false }
def FnMatchPatternStarInsertionKeepsMatchSaid : Prop := fnMatchPatternStarInsertionKeepsMatchRow.holds Try.pinned (OpenSpec.ofChange fnMatchPatternStarInsertionKeepsMatchSpec)

/-- ITS FALSE NEIGHBOUR: 'it returns false'. Refute it at one input. -/
def fnMatchPatternStarInsertionKeepsMatchWrong : ChangeSpec := { name := "fnMatchPatternStarInsertionKeepsMatch", fn := fun _ => fun
  | [d1, d2, d3] => { results := [.lit (.bool false)], args := [d1, d2, d3] }
  | _ => none }
def FnMatchPatternStarInsertionKeepsMatchWrongFalsely : Prop := fnMatchPatternStarInsertionKeepsMatchRow.holds Try.pinned (OpenSpec.ofChange fnMatchPatternStarInsertionKeepsMatchWrong)

end Rows
end Go.Proofs.Qxb6606156a
