/-
  No cell of these rows narrows 'for every input' (looked for: loops, veiled, ifaces, maps, wideKeys, modest, calm, conditions, laid).
  DERIVED. THE GIVEN ROWS OF THIS SEAT. 4 by the template 'for every input the law returns true; each argument reads behind the call as it read before'; 0 by the template 'total and deterministic' (their statements: Qxb6609053aTotals.lean).
  GIVEN WITH THE SEED: the statements are not yours to turn. If you find one false, say at which input.
  Laid BY PROGRAM, IN A SANDBOX (cutbox-rows.mjs): the forced cells as the released guide's own fill.sh prints them over the translation 8ff6ea8e1d2f0d84… (all of the seat's roots in one cut). By AI agents, Wed Nov 11 2026. No macro, syntax, notation, axiom, sorry.
-/
import Derived.Test.Qxb6609053aChecked
import GoSem.Claim
import GoSem.ClaimJoined
import GoSem.ClaimMapViews
import Derived.JoinedTies
import Derived.KernelRfl
namespace Go.Proofs.Qxb6609053a
/- THE CELL 'sum', in the pinned program and in every row, IS THE sha256 OF THE DUMP (.gsa) THAT Qxb6609053aProg.lean LOADS. Nothing in Lean hashes anything: it is a label: what it is worth is what the hold of that sum in a sandbox is worth. -/
noncomputable def Try.pinned : Pinned := { name := "qxb6609053a", sum := "8ff6ea8e1d2f0d84027c0fda58f7d4fbc4078a6570f4875ffe85c6f6e78d6410", checked := Try.checked }
namespace Rows
def none {H : Type} : Left H := { results := [], args := [] }

/-- 'zzlaws_internal_rdf_b1.FnPNCharsUColonAdmitsOnlyColon': WHATEVER THE INPUT: true; the input reads as it did. -/
def fnPNCharsUColonAdmitsOnlyColonSpec : ChangeSpec := { name := "fnPNCharsUColonAdmitsOnlyColon", fn := fun _ => fun
  | [d1, d2] => { results := [.lit (.bool true)], args := [d1, d2] }
  | _ => none }
def fnPNCharsUColonAdmitsOnlyColonRow : OpenClaim := { program := "qxb6609053a", sum := "8ff6ea8e1d2f0d84027c0fda58f7d4fbc4078a6570f4875ffe85c6f6e78d6410", func := "example.com/accordant/accordant/zzlaws_internal_rdf_b1.FnPNCharsUColonAdmitsOnlyColon", spec := "fnPNCharsUColonAdmitsOnlyColon", apart := false }
def FnPNCharsUColonAdmitsOnlyColonSaid : Prop := fnPNCharsUColonAdmitsOnlyColonRow.holds Try.pinned (OpenSpec.ofChange fnPNCharsUColonAdmitsOnlyColonSpec)

/-- ITS FALSE NEIGHBOUR: 'it returns false'. Refute it at one input. -/
def fnPNCharsUColonAdmitsOnlyColonWrong : ChangeSpec := { name := "fnPNCharsUColonAdmitsOnlyColon", fn := fun _ => fun
  | [d1, d2] => { results := [.lit (.bool false)], args := [d1, d2] }
  | _ => none }
def FnPNCharsUColonAdmitsOnlyColonWrongFalsely : Prop := fnPNCharsUColonAdmitsOnlyColonRow.holds Try.pinned (OpenSpec.ofChange fnPNCharsUColonAdmitsOnlyColonWrong)

/-- 'zzlaws_internal_rdf_b1.FnPNCharsColonAdmitsOnlyColon': WHATEVER THE INPUT: true; the input reads as it did. -/
def fnPNCharsColonAdmitsOnlyColonSpec : ChangeSpec := { name := "fnPNCharsColonAdmitsOnlyColon", fn := fun _ => fun
  | [d1, d2] => { results := [.lit (.bool true)], args := [d1, d2] }
  | _ => none }
def fnPNCharsColonAdmitsOnlyColonRow : OpenClaim := { program := "qxb6609053a", sum := "8ff6ea8e1d2f0d84027c0fda58f7d4fbc4078a6570f4875ffe85c6f6e78d6410", func := "example.com/accordant/accordant/zzlaws_internal_rdf_b1.FnPNCharsColonAdmitsOnlyColon", spec := "fnPNCharsColonAdmitsOnlyColon", apart := false }
def FnPNCharsColonAdmitsOnlyColonSaid : Prop := fnPNCharsColonAdmitsOnlyColonRow.holds Try.pinned (OpenSpec.ofChange fnPNCharsColonAdmitsOnlyColonSpec)

/-- ITS FALSE NEIGHBOUR: 'it returns false'. Refute it at one input. -/
def fnPNCharsColonAdmitsOnlyColonWrong : ChangeSpec := { name := "fnPNCharsColonAdmitsOnlyColon", fn := fun _ => fun
  | [d1, d2] => { results := [.lit (.bool false)], args := [d1, d2] }
  | _ => none }
def FnPNCharsColonAdmitsOnlyColonWrongFalsely : Prop := fnPNCharsColonAdmitsOnlyColonRow.holds Try.pinned (OpenSpec.ofChange fnPNCharsColonAdmitsOnlyColonWrong)

/-- 'zzlaws_internal_rdf_b1.FnPNCharsUWithinPNChars': WHATEVER THE INPUT: true; the input reads as it did. -/
def fnPNCharsUWithinPNCharsSpec : ChangeSpec := { name := "fnPNCharsUWithinPNChars", fn := fun _ => fun
  | [d1, d2] => { results := [.lit (.bool true)], args := [d1, d2] }
  | _ => none }
def fnPNCharsUWithinPNCharsRow : OpenClaim := { program := "qxb6609053a", sum := "8ff6ea8e1d2f0d84027c0fda58f7d4fbc4078a6570f4875ffe85c6f6e78d6410", func := "example.com/accordant/accordant/zzlaws_internal_rdf_b1.FnPNCharsUWithinPNChars", spec := "fnPNCharsUWithinPNChars", apart := false }
def FnPNCharsUWithinPNCharsSaid : Prop := fnPNCharsUWithinPNCharsRow.holds Try.pinned (OpenSpec.ofChange fnPNCharsUWithinPNCharsSpec)

/-- ITS FALSE NEIGHBOUR: 'it returns false'. Refute it at one input. -/
def fnPNCharsUWithinPNCharsWrong : ChangeSpec := { name := "fnPNCharsUWithinPNChars", fn := fun _ => fun
  | [d1, d2] => { results := [.lit (.bool false)], args := [d1, d2] }
  | _ => none }
def FnPNCharsUWithinPNCharsWrongFalsely : Prop := fnPNCharsUWithinPNCharsRow.holds Try.pinned (OpenSpec.ofChange fnPNCharsUWithinPNCharsWrong)

/-- 'zzlaws_internal_rdf_b1.FnAppendShortTermBareUnderOneKindAtMost': WHATEVER THE INPUT: true; the input reads as it did. -/
def fnAppendShortTermBareUnderOneKindAtMostSpec : ChangeSpec := { name := "fnAppendShortTermBareUnderOneKindAtMost", fn := fun _ => fun
  | [d1, d2, d3] => { results := [.lit (.bool true)], args := [d1, d2, d3] }
  | _ => none }
def fnAppendShortTermBareUnderOneKindAtMostRow : OpenClaim := { program := "qxb6609053a", sum := "8ff6ea8e1d2f0d84027c0fda58f7d4fbc4078a6570f4875ffe85c6f6e78d6410", func := "example.com/accordant/accordant/zzlaws_internal_rdf_b1.FnAppendShortTermBareUnderOneKindAtMost", spec := "fnAppendShortTermBareUnderOneKindAtMost", inPlace := ["internal/bytealg.IndexByteString"], apart := false }
def FnAppendShortTermBareUnderOneKindAtMostSaid : Prop := fnAppendShortTermBareUnderOneKindAtMostRow.holds Try.pinned (OpenSpec.ofChange fnAppendShortTermBareUnderOneKindAtMostSpec)

/-- ITS FALSE NEIGHBOUR: 'it returns false'. Refute it at one input. -/
def fnAppendShortTermBareUnderOneKindAtMostWrong : ChangeSpec := { name := "fnAppendShortTermBareUnderOneKindAtMost", fn := fun _ => fun
  | [d1, d2, d3] => { results := [.lit (.bool false)], args := [d1, d2, d3] }
  | _ => none }
def FnAppendShortTermBareUnderOneKindAtMostWrongFalsely : Prop := fnAppendShortTermBareUnderOneKindAtMostRow.holds Try.pinned (OpenSpec.ofChange fnAppendShortTermBareUnderOneKindAtMostWrong)

end Rows
end Go.Proofs.Qxb6609053a
