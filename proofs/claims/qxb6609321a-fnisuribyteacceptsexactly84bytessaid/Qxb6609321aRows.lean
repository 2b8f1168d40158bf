/-
  No cell of these rows narrows 'for every input' (looked for: loops, veiled, ifaces, maps, wideKeys, modest, calm, conditions, laid).
  DERIVED. THE GIVEN ROWS OF THIS SEAT. 2 by the template 'for every input the law returns true; each argument reads behind the call as it read before'; 0 by the template 'total and deterministic' (their statements: Qxb6609321aTotals.lean).
  GIVEN WITH THE SEED: the statements are not yours to turn. If you find one false, say at which input.
  Laid BY PROGRAM, IN A SANDBOX (cutbox-rows.mjs): the forced cells as the released guide's own fill.sh prints them over the translation 5f1abd4c5c9019b5… (all of the seat's roots in one cut). By AI agents, Wed Nov 11 2026. No macro, syntax, notation, axiom, sorry.
-/
import Derived.Test.Qxb6609321aChecked
import GoSem.Claim
import GoSem.ClaimJoined
import GoSem.ClaimMapViews
import Derived.JoinedTies
import Derived.KernelRfl
namespace Go.Proofs.Qxb6609321a
/- THE CELL 'sum', in the pinned program and in every row, IS THE sha256 OF THE DUMP (.gsa) THAT Qxb6609321aProg.lean LOADS. Nothing in Lean hashes anything: it is a label: what it is worth is what the hold of that sum in a sandbox is worth. -/
noncomputable def Try.pinned : Pinned := { name := "qxb6609321a", sum := "5f1abd4c5c9019b52767fdd2817d94826f29acb9c67dce9f76a74a2fc6165cb1", checked := Try.checked }
namespace Rows
def none {H : Type} : Left H := { results := [], args := [] }

/-- 'zzlaws_pkg_coserv_b1.FnIsURIByteMatchesRFC3986Table': WHATEVER THE INPUT: true; the input reads as it did. -/
def fnIsURIByteMatchesRFC3986TableSpec : ChangeSpec := { name := "fnIsURIByteMatchesRFC3986Table", fn := fun _ => fun
  | [d] => { results := [.lit (.bool true)], args := [d] }
  | _ => none }
def fnIsURIByteMatchesRFC3986TableRow : OpenClaim := { program := "qxb6609321a", sum := "5f1abd4c5c9019b52767fdd2817d94826f29acb9c67dce9f76a74a2fc6165cb1", func := "example.com/bonafyde/bonafyde/zzlaws_pkg_coserv_b1.FnIsURIByteMatchesRFC3986Table", spec := "fnIsURIByteMatchesRFC3986Table", inPlace := ["internal/bytealg.IndexByteString"], apart := false }
def FnIsURIByteMatchesRFC3986TableSaid : Prop := fnIsURIByteMatchesRFC3986TableRow.holds Try.pinned (OpenSpec.ofChange fnIsURIByteMatchesRFC3986TableSpec)

/-- ITS FALSE NEIGHBOUR: 'it returns false'. Refute it at one input. -/
def fnIsURIByteMatchesRFC3986TableWrong : ChangeSpec := { name := "fnIsURIByteMatchesRFC3986Table", fn := fun _ => fun
  | [d] => { results := [.lit (.bool false)], args := [d] }
  | _ => none }
def FnIsURIByteMatchesRFC3986TableWrongFalsely : Prop := fnIsURIByteMatchesRFC3986TableRow.holds Try.pinned (OpenSpec.ofChange fnIsURIByteMatchesRFC3986TableWrong)

/-- 'zzlaws_pkg_coserv_b1.FnIsURIByteAcceptsExactly84Bytes': WHATEVER THE INPUT: true; the input reads as it did. -/
def fnIsURIByteAcceptsExactly84BytesSpec : ChangeSpec := { name := "fnIsURIByteAcceptsExactly84Bytes", fn := fun _ => fun
  | [] => { results := [.lit (.bool true)], args := [] }
  | _ => none }
def fnIsURIByteAcceptsExactly84BytesRow : OpenClaim := { program := "qxb6609321a", sum := "5f1abd4c5c9019b52767fdd2817d94826f29acb9c67dce9f76a74a2fc6165cb1", func := "example.com/bonafyde/bonafyde/zzlaws_pkg_coserv_b1.FnIsURIByteAcceptsExactly84Bytes", spec := "fnIsURIByteAcceptsExactly84Bytes", inPlace := ["internal/bytealg.IndexByteString"], apart := false }
def FnIsURIByteAcceptsExactly84BytesSaid : Prop := fnIsURIByteAcceptsExactly84BytesRow.holds Try.pinned (OpenSpec.ofChange fnIsURIByteAcceptsExactly84BytesSpec)

/-- ITS FALSE NEIGHBOUR: 'it returns false'. Refute it at one input. -/
def fnIsURIByteAcceptsExactly84BytesWrong : ChangeSpec := { name := "fnIsURIByteAcceptsExactly84Bytes", fn := fun _ => fun
  | [] => { results := [.lit (.bool false)], args := [] }
  | _ => none }
def FnIsURIByteAcceptsExactly84BytesWrongFalsely : Prop := fnIsURIByteAcceptsExactly84BytesRow.holds Try.pinned (OpenSpec.ofChange fnIsURIByteAcceptsExactly84BytesWrong)

end Rows
end Go.Proofs.Qxb6609321a
