/-
  NARROWER THAN 'FOR EVERY INPUT', by the rows' own cells (each row's printed sentence says how): FnReaderBytesSplitReadAgreesWithWholeRead: ifaces, laid · FnReadProofReadsConsecutiveBlocksThenFails: laid · FnReadProofIsTheCallersOwn: laid.
  DERIVED. THE GIVEN ROWS OF THIS SEAT. 3 by the template 'for every input the law returns true; each argument reads behind the call as it read before'; 0 by the template 'total and deterministic' (their statements: Qxb6616481aDoorTotals.lean).
  GIVEN WITH THE SEED: the statements are not yours to turn. If you find one false, say at which input.
  Laid BY PROGRAM, IN A SANDBOX (cutbox-rows.mjs): the forced cells as the released guide's own fill.sh prints them over the translation cc71010b915dcb5c… (all of the seat's roots in one cut). By AI agents, Wed Nov 11 2026. No macro, syntax, notation, axiom, sorry.
-/
import Derived.Test.Qxb6616481aDoorChecked
import GoSem.Claim
import GoSem.ClaimJoined
import GoSem.ClaimMapViews
import Derived.JoinedTies
import Derived.KernelRfl
namespace Go.Proofs.Qxb6616481aDoor
/- THE CELL 'sum', in the pinned program and in every row, IS THE sha256 OF THE DUMP (.gsa) THAT Qxb6616481aDoorProg.lean LOADS. Nothing in Lean hashes anything: it is a label: what it is worth is what the hold of that sum in a sandbox is worth. -/
noncomputable def Tryd.pinned : Pinned := { name := "qxb6616481adoor", sum := "cc71010b915dcb5ccc779e7da3a1f6fa9840e933f62de90446eee0c520b66844", checked := Tryd.checked }
namespace Rows
def none {H : Type} : Left H := { results := [], args := [] }

/- WHAT THE LISTED PACKAGE-LEVEL VARIABLES READ AS WHEN THE CALL BEGINS. Each datum BY PROGRAM (the guide's laid-datum.mjs) off the statement by which the dump's own 'gosem.cut.vars' lays the variable. In a bare row this is a premise. The card (Qxb6616481aDoorCards.lean) ties it to the program's text. -/
def laid_example_com_keyline_keyline_pkg_wire_errTruncated {H : Type} : DataW H := .iface "*errors.errorString" (.ptr (.agg [.lit (.string [116, 114, 117, 110, 99, 97, 116, 101, 100])]))
def laid_io_ErrShortBuffer {H : Type} : DataW H := .iface "*errors.errorString" (.ptr (.agg [.lit (.string [115, 104, 111, 114, 116, 32, 98, 117, 102, 102, 101, 114])]))
def laid_io_EOF {H : Type} : DataW H := .iface "*errors.errorString" (.ptr (.agg [.lit (.string [69, 79, 70])]))
def laid_io_ErrUnexpectedEOF {H : Type} : DataW H := .iface "*errors.errorString" (.ptr (.agg [.lit (.string [117, 110, 101, 120, 112, 101, 99, 116, 101, 100, 32, 69, 79, 70])]))

/-- 'zzlaws_pkg_wire_b1.FnReaderBytesSplitReadAgreesWithWholeRead': WHATEVER THE INPUT: true; the input reads as it did. -/
def fnReaderBytesSplitReadAgreesWithWholeReadSpec : ChangeSpec := { name := "fnReaderBytesSplitReadAgreesWithWholeRead", vars := ["example.com/keyline/keyline/pkg/wire.errTruncated"], fn := fun _ => fun
  | [d1, d2, d3, d4, g1] => { results := [.lit (.bool true)], args := [d1, d2, d3, d4], vars := [g1] }
  | _ => none }
def fnReaderBytesSplitReadAgreesWithWholeReadRow : OpenClaim := { program := "qxb6616481adoor", sum := "cc71010b915dcb5ccc779e7da3a1f6fa9840e933f62de90446eee0c520b66844", func := "example.com/keyline/keyline/zzlaws_pkg_wire_b1.FnReaderBytesSplitReadAgreesWithWholeRead", spec := "fnReaderBytesSplitReadAgreesWithWholeRead", named := ["example.com/keyline/keyline/pkg/wire.errTruncated"], ifaces := true, apart := false, laid := [("example.com/keyline/keyline/pkg/wire.errTruncated", laid_example_com_keyline_keyline_pkg_wire_errTruncated)] }
def FnReaderBytesSplitReadAgreesWithWholeReadSaid : Prop := fnReaderBytesSplitReadAgreesWithWholeReadRow.holds Tryd.pinned (OpenSpec.ofChange fnReaderBytesSplitReadAgreesWithWholeReadSpec)

/-- ITS FALSE NEIGHBOUR: 'it returns false'. Refute it at one input. -/
def fnReaderBytesSplitReadAgreesWithWholeReadWrong : ChangeSpec := { name := "fnReaderBytesSplitReadAgreesWithWholeRead", vars := ["example.com/keyline/keyline/pkg/wire.errTruncated"], fn := fun _ => fun
  | [d1, d2, d3, d4, g1] => { results := [.lit (.bool false)], args := [d1, d2, d3, d4], vars := [g1] }
  | _ => none }
def FnReaderBytesSplitReadAgreesWithWholeReadWrongFalsely : Prop := fnReaderBytesSplitReadAgreesWithWholeReadRow.holds Tryd.pinned (OpenSpec.ofChange fnReaderBytesSplitReadAgreesWithWholeReadWrong)

/-- 'zzlaws_pkg_wire_b1.FnReadProofReadsConsecutiveBlocksThenFails': WHATEVER THE INPUT: true; the input reads as it did. -/
def fnReadProofReadsConsecutiveBlocksThenFailsSpec : ChangeSpec := { name := "fnReadProofReadsConsecutiveBlocksThenFails", fn := fun _ => fun
  | [d] => { results := [.lit (.bool true)], args := [d] }
  | _ => none }
def fnReadProofReadsConsecutiveBlocksThenFailsRow : OpenClaim := { program := "qxb6616481adoor", sum := "cc71010b915dcb5ccc779e7da3a1f6fa9840e933f62de90446eee0c520b66844", func := "example.com/keyline/keyline/zzlaws_pkg_wire_b1.FnReadProofReadsConsecutiveBlocksThenFails", spec := "fnReadProofReadsConsecutiveBlocksThenFails", unfollowed := true, recurses := true, named := ["io.ErrShortBuffer", "io.EOF", "io.ErrUnexpectedEOF"], apart := false, laid := [("io.ErrShortBuffer", laid_io_ErrShortBuffer), ("io.EOF", laid_io_EOF), ("io.ErrUnexpectedEOF", laid_io_ErrUnexpectedEOF)] }
def FnReadProofReadsConsecutiveBlocksThenFailsSaid : Prop := fnReadProofReadsConsecutiveBlocksThenFailsRow.holds Tryd.pinned (OpenSpec.ofChange fnReadProofReadsConsecutiveBlocksThenFailsSpec)

/-- ITS FALSE NEIGHBOUR: 'it returns false'. Refute it at one input. -/
def fnReadProofReadsConsecutiveBlocksThenFailsWrong : ChangeSpec := { name := "fnReadProofReadsConsecutiveBlocksThenFails", fn := fun _ => fun
  | [d] => { results := [.lit (.bool false)], args := [d] }
  | _ => none }
def FnReadProofReadsConsecutiveBlocksThenFailsWrongFalsely : Prop := fnReadProofReadsConsecutiveBlocksThenFailsRow.holds Tryd.pinned (OpenSpec.ofChange fnReadProofReadsConsecutiveBlocksThenFailsWrong)

/-- 'zzlaws_pkg_wire_b1.FnReadProofIsTheCallersOwn': WHATEVER THE INPUT: true; the input reads as it did. -/
def fnReadProofIsTheCallersOwnSpec : ChangeSpec := { name := "fnReadProofIsTheCallersOwn", fn := fun _ => fun
  | [d] => { results := [.lit (.bool true)], args := [d] }
  | _ => none }
def fnReadProofIsTheCallersOwnRow : OpenClaim := { program := "qxb6616481adoor", sum := "cc71010b915dcb5ccc779e7da3a1f6fa9840e933f62de90446eee0c520b66844", func := "example.com/keyline/keyline/zzlaws_pkg_wire_b1.FnReadProofIsTheCallersOwn", spec := "fnReadProofIsTheCallersOwn", unfollowed := true, recurses := true, named := ["io.ErrShortBuffer", "io.EOF", "io.ErrUnexpectedEOF"], apart := false, laid := [("io.ErrShortBuffer", laid_io_ErrShortBuffer), ("io.EOF", laid_io_EOF), ("io.ErrUnexpectedEOF", laid_io_ErrUnexpectedEOF)] }
def FnReadProofIsTheCallersOwnSaid : Prop := fnReadProofIsTheCallersOwnRow.holds Tryd.pinned (OpenSpec.ofChange fnReadProofIsTheCallersOwnSpec)

/-- ITS FALSE NEIGHBOUR: 'it returns false'. Refute it at one input. -/
def fnReadProofIsTheCallersOwnWrong : ChangeSpec := { name := "fnReadProofIsTheCallersOwn", fn := fun _ => fun
  | [d] => { results := [.lit (.bool false)], args := [d] }
  | _ => none }
def FnReadProofIsTheCallersOwnWrongFalsely : Prop := fnReadProofIsTheCallersOwnRow.holds Tryd.pinned (OpenSpec.ofChange fnReadProofIsTheCallersOwnWrong)

end Rows
end Go.Proofs.Qxb6616481aDoor
