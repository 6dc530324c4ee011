/-
  NARROWER THAN 'FOR EVERY INPUT', by the rows' own cells (each row's printed sentence says how): FnLengthReadsEachHeadInTurn: ifaces, laid · FnReaderNextSkipScript: ifaces, laid · FnReaderReadsOnAsFresh: ifaces, laid.
  DERIVED. THE GIVEN ROWS OF THIS SEAT. 3 by the template 'for every input the law returns true; each argument reads behind the call as it read before'; 0 by the template 'total and deterministic' (their statements: Qxb6614532aFmtTotals.lean).
  GIVEN WITH THE SEED: the statements are not yours to turn. If you find one false, say at which input.
  Laid BY PROGRAM, IN A SANDBOX (cutbox-rows.mjs): the forced cells as the released guide's own fill.sh prints them over the translation 99d1599c6e01378b… (all of the seat's roots in one cut). By AI agents, Wed Nov 11 2026. No macro, syntax, notation, axiom, sorry.
-/
import Derived.Test.Qxb6614532aFmtChecked
import GoSem.Claim
import GoSem.ClaimJoined
import GoSem.ClaimMapViews
import Derived.JoinedTies
import Derived.KernelRfl
namespace Go.Proofs.Qxb6614532aFmt
/- THE CELL 'sum', in the pinned program and in every row, IS THE sha256 OF THE DUMP (.gsa) THAT Qxb6614532aFmtProg.lean LOADS. Nothing in Lean hashes anything: it is a label: what it is worth is what the hold of that sum in a sandbox is worth. -/
noncomputable def Tryf.pinned : Pinned := { name := "qxb6614532afmt", sum := "99d1599c6e01378bb1e99c981b4732c6729b2590e7836662cd6706b5bd139e6b", checked := Tryf.checked }
namespace Rows
def none {H : Type} : Left H := { results := [], args := [] }

/- WHAT THE LISTED PACKAGE-LEVEL VARIABLES READ AS WHEN THE CALL BEGINS. Each datum BY PROGRAM (the guide's laid-datum.mjs) off the statement by which the dump's own 'gosem.cut.vars' lays the variable. In a bare row this is a premise. The card (Qxb6614532aFmtCards.lean) ties it to the program's text. -/
def laid_io_EOF {H : Type} : DataW H := .iface "*errors.errorString" (.ptr (.agg [.lit (.string [69, 79, 70])]))
def laid_io_ErrUnexpectedEOF {H : Type} : DataW H := .iface "*errors.errorString" (.ptr (.agg [.lit (.string [117, 110, 101, 120, 112, 101, 99, 116, 101, 100, 32, 69, 79, 70])]))
def laid_io_ErrNoProgress {H : Type} : DataW H := .iface "*errors.errorString" (.ptr (.agg [.lit (.string [109, 117, 108, 116, 105, 112, 108, 101, 32, 82, 101, 97, 100, 32, 99, 97, 108, 108, 115, 32, 114, 101, 116, 117, 114, 110, 32, 110, 111, 32, 100, 97, 116, 97, 32, 111, 114, 32, 101, 114, 114, 111, 114])]))
def laid_bufio_ErrBufferFull {H : Type} : DataW H := .iface "*errors.errorString" (.ptr (.agg [.lit (.string [98, 117, 102, 105, 111, 58, 32, 98, 117, 102, 102, 101, 114, 32, 102, 117, 108, 108])]))
def laid_bufio_ErrNegativeCount {H : Type} : DataW H := .iface "*errors.errorString" (.ptr (.agg [.lit (.string [98, 117, 102, 105, 111, 58, 32, 110, 101, 103, 97, 116, 105, 118, 101, 32, 99, 111, 117, 110, 116])]))
def laid_bufio_errNegativeRead {H : Type} : DataW H := .iface "*errors.errorString" (.ptr (.agg [.lit (.string [98, 117, 102, 105, 111, 58, 32, 114, 101, 97, 100, 101, 114, 32, 114, 101, 116, 117, 114, 110, 101, 100, 32, 110, 101, 103, 97, 116, 105, 118, 101, 32, 99, 111, 117, 110, 116, 32, 102, 114, 111, 109, 32, 82, 101, 97, 100])]))
def laid_example_com_shardwarden_shardwarden_pkg_frame_ErrTooLong {H : Type} : DataW H := .iface "*errors.errorString" (.ptr (.agg [.lit (.string [102, 105, 101, 108, 100, 32, 116, 111, 111, 32, 108, 111, 110, 103])]))
def laid_io_ErrShortBuffer {H : Type} : DataW H := .iface "*errors.errorString" (.ptr (.agg [.lit (.string [115, 104, 111, 114, 116, 32, 98, 117, 102, 102, 101, 114])]))

/-- 'zzlaws_pkg_frame_b1.FnLengthReadsEachHeadInTurn': WHATEVER THE INPUT: true; the input reads as it did. -/
def fnLengthReadsEachHeadInTurnSpec : ChangeSpec := { name := "fnLengthReadsEachHeadInTurn", vars := ["example.com/shardwarden/shardwarden/pkg/frame.ErrTooLong"], fn := fun _ => fun
  | [d1, d2, g1] => { results := [.lit (.bool true)], args := [d1, d2], vars := [g1] }
  | _ => none }
def fnLengthReadsEachHeadInTurnRow : OpenClaim := { program := "qxb6614532afmt", sum := "99d1599c6e01378bb1e99c981b4732c6729b2590e7836662cd6706b5bd139e6b", func := "example.com/shardwarden/shardwarden/zzlaws_pkg_frame_b1.FnLengthReadsEachHeadInTurn", spec := "fnLengthReadsEachHeadInTurn", stops := ["fmt.errorf"], inPlace := ["fmt.errorf", "internal/reflectlite.TypeOf"], unfollowed := true, recurses := true, named := ["example.com/shardwarden/shardwarden/pkg/frame.ErrTooLong", "io.EOF", "io.ErrUnexpectedEOF", "bufio.ErrNegativeCount", "bufio.ErrBufferFull", "bufio.errNegativeRead", "io.ErrNoProgress"], ifaces := true, apart := false, laid := [("io.EOF", laid_io_EOF), ("io.ErrUnexpectedEOF", laid_io_ErrUnexpectedEOF), ("io.ErrNoProgress", laid_io_ErrNoProgress), ("bufio.ErrBufferFull", laid_bufio_ErrBufferFull), ("bufio.ErrNegativeCount", laid_bufio_ErrNegativeCount), ("bufio.errNegativeRead", laid_bufio_errNegativeRead), ("example.com/shardwarden/shardwarden/pkg/frame.ErrTooLong", laid_example_com_shardwarden_shardwarden_pkg_frame_ErrTooLong)] }
/-- NO THEOREM (fmt's text is open here; it may be false): for the released tool's asking of the row's closed facts alone. THE STATEMENT IS 'FnLengthReadsEachHeadInTurnToldSaid' (Qxb6614532aFmtCards.lean). -/
def FnLengthReadsEachHeadInTurnFormAsk : Prop := fnLengthReadsEachHeadInTurnRow.holds Tryf.pinned (OpenSpec.ofChange fnLengthReadsEachHeadInTurnSpec)

/-- ITS FALSE NEIGHBOUR: 'it returns false'. Refute it at one input. -/
def fnLengthReadsEachHeadInTurnWrong : ChangeSpec := { name := "fnLengthReadsEachHeadInTurn", vars := ["example.com/shardwarden/shardwarden/pkg/frame.ErrTooLong"], fn := fun _ => fun
  | [d1, d2, g1] => { results := [.lit (.bool false)], args := [d1, d2], vars := [g1] }
  | _ => none }
def FnLengthReadsEachHeadInTurnWrongFormAsk : Prop := fnLengthReadsEachHeadInTurnRow.holds Tryf.pinned (OpenSpec.ofChange fnLengthReadsEachHeadInTurnWrong)

/-- 'zzlaws_pkg_frame_b1.FnReaderNextSkipScript': WHATEVER THE INPUT: true; the input reads as it did. -/
def fnReaderNextSkipScriptSpec : ChangeSpec := { name := "fnReaderNextSkipScript", vars := ["example.com/shardwarden/shardwarden/pkg/frame.ErrTooLong"], fn := fun _ => fun
  | [d1, d2, d3, g1] => { results := [.lit (.bool true)], args := [d1, d2, d3], vars := [g1] }
  | _ => none }
def fnReaderNextSkipScriptRow : OpenClaim := { program := "qxb6614532afmt", sum := "99d1599c6e01378bb1e99c981b4732c6729b2590e7836662cd6706b5bd139e6b", func := "example.com/shardwarden/shardwarden/zzlaws_pkg_frame_b1.FnReaderNextSkipScript", spec := "fnReaderNextSkipScript", stops := ["fmt.errorf"], inPlace := ["fmt.errorf", "internal/reflectlite.TypeOf"], unfollowed := true, recurses := true, named := ["io.EOF", "io.ErrUnexpectedEOF", "example.com/shardwarden/shardwarden/pkg/frame.ErrTooLong", "bufio.ErrNegativeCount", "bufio.ErrBufferFull", "bufio.errNegativeRead", "io.ErrNoProgress", "io.ErrShortBuffer"], ifaces := true, apart := false, laid := [("io.ErrShortBuffer", laid_io_ErrShortBuffer), ("io.EOF", laid_io_EOF), ("io.ErrUnexpectedEOF", laid_io_ErrUnexpectedEOF), ("io.ErrNoProgress", laid_io_ErrNoProgress), ("bufio.ErrBufferFull", laid_bufio_ErrBufferFull), ("bufio.ErrNegativeCount", laid_bufio_ErrNegativeCount), ("bufio.errNegativeRead", laid_bufio_errNegativeRead), ("example.com/shardwarden/shardwarden/pkg/frame.ErrTooLong", laid_example_com_shardwarden_shardwarden_pkg_frame_ErrTooLong)] }
/-- NO THEOREM (fmt's text is open here; it may be false): for the released tool's asking of the row's closed facts alone. THE STATEMENT IS 'FnReaderNextSkipScriptToldSaid' (Qxb6614532aFmtCards.lean). -/
def FnReaderNextSkipScriptFormAsk : Prop := fnReaderNextSkipScriptRow.holds Tryf.pinned (OpenSpec.ofChange fnReaderNextSkipScriptSpec)

/-- ITS FALSE NEIGHBOUR: 'it returns false'. Refute it at one input. -/
def fnReaderNextSkipScriptWrong : ChangeSpec := { name := "fnReaderNextSkipScript", vars := ["example.com/shardwarden/shardwarden/pkg/frame.ErrTooLong"], fn := fun _ => fun
  | [d1, d2, d3, g1] => { results := [.lit (.bool false)], args := [d1, d2, d3], vars := [g1] }
  | _ => none }
def FnReaderNextSkipScriptWrongFormAsk : Prop := fnReaderNextSkipScriptRow.holds Tryf.pinned (OpenSpec.ofChange fnReaderNextSkipScriptWrong)

/-- 'zzlaws_pkg_frame_b1.FnReaderReadsOnAsFresh': WHATEVER THE INPUT: true; the input reads as it did. -/
def fnReaderReadsOnAsFreshSpec : ChangeSpec := { name := "fnReaderReadsOnAsFresh", vars := ["example.com/shardwarden/shardwarden/pkg/frame.ErrTooLong"], fn := fun _ => fun
  | [d1, d2, d3, g1] => { results := [.lit (.bool true)], args := [d1, d2, d3], vars := [g1] }
  | _ => none }
def fnReaderReadsOnAsFreshRow : OpenClaim := { program := "qxb6614532afmt", sum := "99d1599c6e01378bb1e99c981b4732c6729b2590e7836662cd6706b5bd139e6b", func := "example.com/shardwarden/shardwarden/zzlaws_pkg_frame_b1.FnReaderReadsOnAsFresh", spec := "fnReaderReadsOnAsFresh", stops := ["fmt.errorf"], inPlace := ["fmt.errorf", "internal/reflectlite.TypeOf"], unfollowed := true, recurses := true, named := ["io.EOF", "io.ErrUnexpectedEOF", "example.com/shardwarden/shardwarden/pkg/frame.ErrTooLong", "bufio.ErrNegativeCount", "bufio.ErrBufferFull", "bufio.errNegativeRead", "io.ErrNoProgress", "io.ErrShortBuffer"], ifaces := true, apart := false, laid := [("io.ErrShortBuffer", laid_io_ErrShortBuffer), ("io.EOF", laid_io_EOF), ("io.ErrUnexpectedEOF", laid_io_ErrUnexpectedEOF), ("io.ErrNoProgress", laid_io_ErrNoProgress), ("bufio.ErrBufferFull", laid_bufio_ErrBufferFull), ("bufio.ErrNegativeCount", laid_bufio_ErrNegativeCount), ("bufio.errNegativeRead", laid_bufio_errNegativeRead), ("example.com/shardwarden/shardwarden/pkg/frame.ErrTooLong", laid_example_com_shardwarden_shardwarden_pkg_frame_ErrTooLong)] }
/-- NO THEOREM (fmt's text is open here; it may be false): for the released tool's asking of the row's closed facts alone. THE STATEMENT IS 'FnReaderReadsOnAsFreshToldSaid' (Qxb6614532aFmtCards.lean). -/
def FnReaderReadsOnAsFreshFormAsk : Prop := fnReaderReadsOnAsFreshRow.holds Tryf.pinned (OpenSpec.ofChange fnReaderReadsOnAsFreshSpec)

/-- ITS FALSE NEIGHBOUR: 'it returns false'. Refute it at one input. -/
def fnReaderReadsOnAsFreshWrong : ChangeSpec := { name := "fnReaderReadsOnAsFresh", vars := ["example.com/shardwarden/shardwarden/pkg/frame.ErrTooLong"], fn := fun _ => fun
  | [d1, d2, d3, g1] => { results := [.lit (.bool false)], args := [d1, d2, d3], vars := [g1] }
  | _ => none }
def FnReaderReadsOnAsFreshWrongFormAsk : Prop := fnReaderReadsOnAsFreshRow.holds Tryf.pinned (OpenSpec.ofChange fnReaderReadsOnAsFreshWrong)

end Rows
end Go.Proofs.Qxb6614532aFmt
