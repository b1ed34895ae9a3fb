/-
  NARROWER THAN 'FOR EVERY INPUT', by the rows' own cells (each row's printed sentence says how): FnSkipByteOrderMarkTakesOffAMarkAhead: laid · FnSkipByteOrderMarkKeepsAMarkElsewhere: laid.
  DERIVED. THE GIVEN ROWS OF THIS SEAT. 2 by the template 'for every input the law returns true; each argument reads behind the call as it read before'; 0 by the template 'total and deterministic' (their statements: Qxb6615548aDoorTotals.lean).
  GIVEN WITH THE SEED: the statements are not yours to turn. If you find one false, say at which input.
  Laid BY PROGRAM, IN A SANDBOX (cutbox-rows.mjs): the forced cells as the released guide's own fill.sh prints them over the translation 082d6b9333675866… (all of the seat's roots in one cut). By AI agents, Wed Nov 11 2026. No macro, syntax, notation, axiom, sorry.
-/
import Derived.Test.Qxb6615548aDoorChecked
import GoSem.Claim
import GoSem.ClaimJoined
import GoSem.ClaimMapViews
import Derived.JoinedTies
import Derived.KernelRfl
namespace Go.Proofs.Qxb6615548aDoor
/- THE CELL 'sum', in the pinned program and in every row, IS THE sha256 OF THE DUMP (.gsa) THAT Qxb6615548aDoorProg.lean LOADS. Nothing in Lean hashes anything: it is a label: what it is worth is what the hold of that sum in a sandbox is worth. -/
noncomputable def Tryd.pinned : Pinned := { name := "qxb6615548adoor", sum := "082d6b93336758660f048a5785ff46ae0c098b7dd36221bba77eb9910709a379", checked := Tryd.checked }
namespace Rows
def none {H : Type} : Left H := { results := [], args := [] }

/- WHAT THE LISTED PACKAGE-LEVEL VARIABLES READ AS WHEN THE CALL BEGINS. Each datum BY PROGRAM (the guide's laid-datum.mjs) off the statement by which the dump's own 'gosem.cut.vars' lays the variable. In a bare row this is a premise. The card (Qxb6615548aDoorCards.lean) ties it to the program's text. -/
def laid_io_EOF {H : Type} : DataW H := .iface "*errors.errorString" (.ptr (.agg [.lit (.string [69, 79, 70])]))
def laid_io_ErrNoProgress {H : Type} : DataW H := .iface "*errors.errorString" (.ptr (.agg [.lit (.string [109, 117, 108, 116, 105, 112, 108, 101, 32, 82, 101, 97, 100, 32, 99, 97, 108, 108, 115, 32, 114, 101, 116, 117, 114, 110, 32, 110, 111, 32, 100, 97, 116, 97, 32, 111, 114, 32, 101, 114, 114, 111, 114])]))
def laid_bufio_ErrBufferFull {H : Type} : DataW H := .iface "*errors.errorString" (.ptr (.agg [.lit (.string [98, 117, 102, 105, 111, 58, 32, 98, 117, 102, 102, 101, 114, 32, 102, 117, 108, 108])]))
def laid_bufio_ErrNegativeCount {H : Type} : DataW H := .iface "*errors.errorString" (.ptr (.agg [.lit (.string [98, 117, 102, 105, 111, 58, 32, 110, 101, 103, 97, 116, 105, 118, 101, 32, 99, 111, 117, 110, 116])]))
def laid_bufio_errNegativeRead {H : Type} : DataW H := .iface "*errors.errorString" (.ptr (.agg [.lit (.string [98, 117, 102, 105, 111, 58, 32, 114, 101, 97, 100, 101, 114, 32, 114, 101, 116, 117, 114, 110, 101, 100, 32, 110, 101, 103, 97, 116, 105, 118, 101, 32, 99, 111, 117, 110, 116, 32, 102, 114, 111, 109, 32, 82, 101, 97, 100])]))

/-- 'zzlaws_csvfile_b1.FnSkipByteOrderMarkTakesOffAMarkAhead': WHATEVER THE INPUT: true; the input reads as it did. -/
def fnSkipByteOrderMarkTakesOffAMarkAheadSpec : ChangeSpec := { name := "fnSkipByteOrderMarkTakesOffAMarkAhead", fn := fun _ => fun
  | [d] => { results := [.lit (.bool true)], args := [d] }
  | _ => none }
def fnSkipByteOrderMarkTakesOffAMarkAheadRow : OpenClaim := { program := "qxb6615548adoor", sum := "082d6b93336758660f048a5785ff46ae0c098b7dd36221bba77eb9910709a379", func := "example.com/custodex/custodex/zzlaws_csvfile_b1.FnSkipByteOrderMarkTakesOffAMarkAhead", spec := "fnSkipByteOrderMarkTakesOffAMarkAhead", unfollowed := true, recurses := true, named := ["bufio.ErrNegativeCount", "bufio.ErrBufferFull", "bufio.errNegativeRead", "io.ErrNoProgress", "io.EOF"], apart := false, laid := [("io.EOF", laid_io_EOF), ("io.ErrNoProgress", laid_io_ErrNoProgress), ("bufio.ErrBufferFull", laid_bufio_ErrBufferFull), ("bufio.ErrNegativeCount", laid_bufio_ErrNegativeCount), ("bufio.errNegativeRead", laid_bufio_errNegativeRead)] }
def FnSkipByteOrderMarkTakesOffAMarkAheadSaid : Prop := fnSkipByteOrderMarkTakesOffAMarkAheadRow.holds Tryd.pinned (OpenSpec.ofChange fnSkipByteOrderMarkTakesOffAMarkAheadSpec)

/-- ITS FALSE NEIGHBOUR: 'it returns false'. Refute it at one input. -/
def fnSkipByteOrderMarkTakesOffAMarkAheadWrong : ChangeSpec := { name := "fnSkipByteOrderMarkTakesOffAMarkAhead", fn := fun _ => fun
  | [d] => { results := [.lit (.bool false)], args := [d] }
  | _ => none }
def FnSkipByteOrderMarkTakesOffAMarkAheadWrongFalsely : Prop := fnSkipByteOrderMarkTakesOffAMarkAheadRow.holds Tryd.pinned (OpenSpec.ofChange fnSkipByteOrderMarkTakesOffAMarkAheadWrong)

/-- 'zzlaws_csvfile_b1.FnSkipByteOrderMarkKeepsAMarkElsewhere': WHATEVER THE INPUT: true; the input reads as it did. -/
def fnSkipByteOrderMarkKeepsAMarkElsewhereSpec : ChangeSpec := { name := "fnSkipByteOrderMarkKeepsAMarkElsewhere", fn := fun _ => fun
  | [d1, d2] => { results := [.lit (.bool true)], args := [d1, d2] }
  | _ => none }
def fnSkipByteOrderMarkKeepsAMarkElsewhereRow : OpenClaim := { program := "qxb6615548adoor", sum := "082d6b93336758660f048a5785ff46ae0c098b7dd36221bba77eb9910709a379", func := "example.com/custodex/custodex/zzlaws_csvfile_b1.FnSkipByteOrderMarkKeepsAMarkElsewhere", spec := "fnSkipByteOrderMarkKeepsAMarkElsewhere", unfollowed := true, recurses := true, named := ["bufio.ErrNegativeCount", "bufio.ErrBufferFull", "bufio.errNegativeRead", "io.ErrNoProgress", "io.EOF"], apart := false, laid := [("io.EOF", laid_io_EOF), ("io.ErrNoProgress", laid_io_ErrNoProgress), ("bufio.ErrBufferFull", laid_bufio_ErrBufferFull), ("bufio.ErrNegativeCount", laid_bufio_ErrNegativeCount), ("bufio.errNegativeRead", laid_bufio_errNegativeRead)] }
def FnSkipByteOrderMarkKeepsAMarkElsewhereSaid : Prop := fnSkipByteOrderMarkKeepsAMarkElsewhereRow.holds Tryd.pinned (OpenSpec.ofChange fnSkipByteOrderMarkKeepsAMarkElsewhereSpec)

/-- ITS FALSE NEIGHBOUR: 'it returns false'. Refute it at one input. -/
def fnSkipByteOrderMarkKeepsAMarkElsewhereWrong : ChangeSpec := { name := "fnSkipByteOrderMarkKeepsAMarkElsewhere", fn := fun _ => fun
  | [d1, d2] => { results := [.lit (.bool false)], args := [d1, d2] }
  | _ => none }
def FnSkipByteOrderMarkKeepsAMarkElsewhereWrongFalsely : Prop := fnSkipByteOrderMarkKeepsAMarkElsewhereRow.holds Tryd.pinned (OpenSpec.ofChange fnSkipByteOrderMarkKeepsAMarkElsewhereWrong)

end Rows
end Go.Proofs.Qxb6615548aDoor
