/-
  NARROWER THAN 'FOR EVERY INPUT', by the rows' own cells (each row's printed sentence says how): FnReadLineMatchesLineModel: laid · FnReadLineCutAtLineEnd: laid · FnReadLineOfBlankRecord: laid.
  DERIVED. THE GIVEN ROWS OF THIS SEAT. 3 by the template 'for every input the law returns true; each argument reads behind the call as it read before'; 0 by the template 'total and deterministic' (their statements: Qxb6612819aDoorTotals.lean).
  GIVEN WITH THE SEED: the statements are not yours to turn. If you find one false, say at which input.
  Laid BY PROGRAM, IN A SANDBOX (cutbox-rows.mjs): the forced cells as the released guide's own fill.sh prints them over the translation cdcb7d8445553c1f… (all of the seat's roots in one cut). By AI agents, Wed Nov 11 2026. No macro, syntax, notation, axiom, sorry.
-/
import Derived.Test.Qxb6612819aDoorChecked
import GoSem.Claim
import GoSem.ClaimJoined
import GoSem.ClaimMapViews
import Derived.JoinedTies
import Derived.KernelRfl
namespace Go.Proofs.Qxb6612819aDoor
/- THE CELL 'sum', in the pinned program and in every row, IS THE sha256 OF THE DUMP (.gsa) THAT Qxb6612819aDoorProg.lean LOADS. Nothing in Lean hashes anything: it is a label: what it is worth is what the hold of that sum in a sandbox is worth. -/
noncomputable def Tryd.pinned : Pinned := { name := "qxb6612819adoor", sum := "cdcb7d8445553c1fdecbe0c13ac66e1f031377c21dff548cf1f5e5355c3b74e6", checked := Tryd.checked }
namespace Rows
def none {H : Type} : Left H := { results := [], args := [] }

/- WHAT THE LISTED PACKAGE-LEVEL VARIABLES READ AS WHEN THE CALL BEGINS. Each datum BY PROGRAM (the guide's laid-datum.mjs) off the statement by which the dump's own 'gosem.cut.vars' lays the variable. In a bare row this is a premise. The card (Qxb6612819aDoorCards.lean) ties it to the program's text. -/
def laid_io_EOF {H : Type} : DataW H := .iface "*errors.errorString" (.ptr (.agg [.lit (.string [69, 79, 70])]))
def laid_io_ErrNoProgress {H : Type} : DataW H := .iface "*errors.errorString" (.ptr (.agg [.lit (.string [109, 117, 108, 116, 105, 112, 108, 101, 32, 82, 101, 97, 100, 32, 99, 97, 108, 108, 115, 32, 114, 101, 116, 117, 114, 110, 32, 110, 111, 32, 100, 97, 116, 97, 32, 111, 114, 32, 101, 114, 114, 111, 114])]))
def laid_bufio_ErrBufferFull {H : Type} : DataW H := .iface "*errors.errorString" (.ptr (.agg [.lit (.string [98, 117, 102, 105, 111, 58, 32, 98, 117, 102, 102, 101, 114, 32, 102, 117, 108, 108])]))
def laid_bufio_errNegativeRead {H : Type} : DataW H := .iface "*errors.errorString" (.ptr (.agg [.lit (.string [98, 117, 102, 105, 111, 58, 32, 114, 101, 97, 100, 101, 114, 32, 114, 101, 116, 117, 114, 110, 101, 100, 32, 110, 101, 103, 97, 116, 105, 118, 101, 32, 99, 111, 117, 110, 116, 32, 102, 114, 111, 109, 32, 82, 101, 97, 100])]))

/-- 'zzlaws_internal_profile_esfixed_b1.FnReadLineMatchesLineModel': WHATEVER THE INPUT: true; the input reads as it did. -/
def fnReadLineMatchesLineModelSpec : ChangeSpec := { name := "fnReadLineMatchesLineModel", fn := fun _ => fun
  | [d] => { results := [.lit (.bool true)], args := [d] }
  | _ => none }
def fnReadLineMatchesLineModelRow : OpenClaim := { program := "qxb6612819adoor", sum := "cdcb7d8445553c1fdecbe0c13ac66e1f031377c21dff548cf1f5e5355c3b74e6", func := "example.com/portaclear/portaclear/zzlaws_internal_profile_esfixed_b1.FnReadLineMatchesLineModel", spec := "fnReadLineMatchesLineModel", inPlace := ["internal/bytealg.IndexByte"], unfollowed := true, recurses := true, named := ["bufio.ErrBufferFull", "io.EOF", "bufio.errNegativeRead", "io.ErrNoProgress"], apart := false, laid := [("io.EOF", laid_io_EOF), ("io.ErrNoProgress", laid_io_ErrNoProgress), ("bufio.ErrBufferFull", laid_bufio_ErrBufferFull), ("bufio.errNegativeRead", laid_bufio_errNegativeRead)] }
def FnReadLineMatchesLineModelSaid : Prop := fnReadLineMatchesLineModelRow.holds Tryd.pinned (OpenSpec.ofChange fnReadLineMatchesLineModelSpec)

/-- ITS FALSE NEIGHBOUR: 'it returns false'. Refute it at one input. -/
def fnReadLineMatchesLineModelWrong : ChangeSpec := { name := "fnReadLineMatchesLineModel", fn := fun _ => fun
  | [d] => { results := [.lit (.bool false)], args := [d] }
  | _ => none }
def FnReadLineMatchesLineModelWrongFalsely : Prop := fnReadLineMatchesLineModelRow.holds Tryd.pinned (OpenSpec.ofChange fnReadLineMatchesLineModelWrong)

/-- 'zzlaws_internal_profile_esfixed_b1.FnReadLineCutAtLineEnd': WHATEVER THE INPUT: true; the input reads as it did. -/
def fnReadLineCutAtLineEndSpec : ChangeSpec := { name := "fnReadLineCutAtLineEnd", fn := fun _ => fun
  | [d1, d2] => { results := [.lit (.bool true)], args := [d1, d2] }
  | _ => none }
def fnReadLineCutAtLineEndRow : OpenClaim := { program := "qxb6612819adoor", sum := "cdcb7d8445553c1fdecbe0c13ac66e1f031377c21dff548cf1f5e5355c3b74e6", func := "example.com/portaclear/portaclear/zzlaws_internal_profile_esfixed_b1.FnReadLineCutAtLineEnd", spec := "fnReadLineCutAtLineEnd", inPlace := ["internal/bytealg.IndexByte"], unfollowed := true, recurses := true, named := ["bufio.ErrBufferFull", "io.EOF", "bufio.errNegativeRead", "io.ErrNoProgress"], apart := false, laid := [("io.EOF", laid_io_EOF), ("io.ErrNoProgress", laid_io_ErrNoProgress), ("bufio.ErrBufferFull", laid_bufio_ErrBufferFull), ("bufio.errNegativeRead", laid_bufio_errNegativeRead)] }
def FnReadLineCutAtLineEndSaid : Prop := fnReadLineCutAtLineEndRow.holds Tryd.pinned (OpenSpec.ofChange fnReadLineCutAtLineEndSpec)

/-- ITS FALSE NEIGHBOUR: 'it returns false'. Refute it at one input. -/
def fnReadLineCutAtLineEndWrong : ChangeSpec := { name := "fnReadLineCutAtLineEnd", fn := fun _ => fun
  | [d1, d2] => { results := [.lit (.bool false)], args := [d1, d2] }
  | _ => none }
def FnReadLineCutAtLineEndWrongFalsely : Prop := fnReadLineCutAtLineEndRow.holds Tryd.pinned (OpenSpec.ofChange fnReadLineCutAtLineEndWrong)

/-- 'zzlaws_internal_profile_esfixed_b1.FnReadLineOfBlankRecord': WHATEVER THE INPUT: true; the input reads as it did. -/
def fnReadLineOfBlankRecordSpec : ChangeSpec := { name := "fnReadLineOfBlankRecord", fn := fun _ => fun
  | [d] => { results := [.lit (.bool true)], args := [d] }
  | _ => none }
def fnReadLineOfBlankRecordRow : OpenClaim := { program := "qxb6612819adoor", sum := "cdcb7d8445553c1fdecbe0c13ac66e1f031377c21dff548cf1f5e5355c3b74e6", func := "example.com/portaclear/portaclear/zzlaws_internal_profile_esfixed_b1.FnReadLineOfBlankRecord", spec := "fnReadLineOfBlankRecord", inPlace := ["internal/bytealg.MakeNoZero", "internal/bytealg.IndexByte"], unfollowed := true, recurses := true, named := ["bufio.ErrBufferFull", "io.EOF", "bufio.errNegativeRead", "io.ErrNoProgress"], apart := false, laid := [("io.EOF", laid_io_EOF), ("io.ErrNoProgress", laid_io_ErrNoProgress), ("bufio.ErrBufferFull", laid_bufio_ErrBufferFull), ("bufio.errNegativeRead", laid_bufio_errNegativeRead)] }
def FnReadLineOfBlankRecordSaid : Prop := fnReadLineOfBlankRecordRow.holds Tryd.pinned (OpenSpec.ofChange fnReadLineOfBlankRecordSpec)

/-- ITS FALSE NEIGHBOUR: 'it returns false'. Refute it at one input. -/
def fnReadLineOfBlankRecordWrong : ChangeSpec := { name := "fnReadLineOfBlankRecord", fn := fun _ => fun
  | [d] => { results := [.lit (.bool false)], args := [d] }
  | _ => none }
def FnReadLineOfBlankRecordWrongFalsely : Prop := fnReadLineOfBlankRecordRow.holds Tryd.pinned (OpenSpec.ofChange fnReadLineOfBlankRecordWrong)

end Rows
end Go.Proofs.Qxb6612819aDoor
