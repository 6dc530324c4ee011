/-
  DERIVED. GIVEN WITH THE SEED: THE CARDS: each row of Qxb6614532aFmtRows.lean that lists a variable, with what it lists TIED to the program's text (the seventh form; the later family's looks); each row that meets fmt, with fmt's text TOLD by the authors' own Lean function (tested against real Go, not proved from fmt's source: count such statements apart). THE CARD IS WHAT COUNTS. Prove the row's statement (the work); the ties are given (Qxb6614532aFmtTie.lean); close each card by the builder's one call (the guide's Derived/Test/ToyasCard.lean, 'card_holds'). Laid BY PROGRAM, IN A SANDBOX (cutbox-door.mjs). By AI agents, Wed Nov 11 2026. No macro, syntax, notation, axiom, sorry.
-/
import Derived.Test.Qxb6614532aFmtRows
import GoSem.ClaimSeven
namespace Go.Proofs.Qxb6614532aFmt
namespace Rows

/-- THE TOLD AND TIED CARD OF 'zzlaws_pkg_frame_b1.FnLengthReadsEachHeadInTurn'. -/
def fnLengthReadsEachHeadInTurnCard : Claim7 := { stood := { row := fnLengthReadsEachHeadInTurnRow, standIns := [], harness := (true, "63dec33c8ce2531f66eb51bea76ddc2bcd91d6655cc432a891a1a642bd1786a8"), looks := true }, told := true, laidByText := true, laidKinds := [.sentinel, .sentinel, .sentinel, .sentinel, .sentinel, .sentinel, .sentinel], laidTests := true, laidLooks := .later, goes := false }
def FnLengthReadsEachHeadInTurnToldSaid : Prop := Claim7.holds Tryf.pinned (.plain (OpenSpec.ofChange fnLengthReadsEachHeadInTurnSpec)) fnLengthReadsEachHeadInTurnCard
/-- ITS FALSE NEIGHBOUR. Refute it at one input. -/
def FnLengthReadsEachHeadInTurnToldWrongFalsely : Prop := Claim7.holds Tryf.pinned (.plain (OpenSpec.ofChange fnLengthReadsEachHeadInTurnWrong)) fnLengthReadsEachHeadInTurnCard

/-- THE TOLD AND TIED CARD OF 'zzlaws_pkg_frame_b1.FnReaderNextSkipScript'. -/
def fnReaderNextSkipScriptCard : Claim7 := { stood := { row := fnReaderNextSkipScriptRow, standIns := [], harness := (true, "63dec33c8ce2531f66eb51bea76ddc2bcd91d6655cc432a891a1a642bd1786a8"), looks := true }, told := true, laidByText := true, laidKinds := [.sentinel, .sentinel, .sentinel, .sentinel, .sentinel, .sentinel, .sentinel, .sentinel], laidTests := true, laidLooks := .later, goes := false }
def FnReaderNextSkipScriptToldSaid : Prop := Claim7.holds Tryf.pinned (.plain (OpenSpec.ofChange fnReaderNextSkipScriptSpec)) fnReaderNextSkipScriptCard
/-- ITS FALSE NEIGHBOUR. Refute it at one input. -/
def FnReaderNextSkipScriptToldWrongFalsely : Prop := Claim7.holds Tryf.pinned (.plain (OpenSpec.ofChange fnReaderNextSkipScriptWrong)) fnReaderNextSkipScriptCard

/-- THE TOLD AND TIED CARD OF 'zzlaws_pkg_frame_b1.FnReaderReadsOnAsFresh'. -/
def fnReaderReadsOnAsFreshCard : Claim7 := { stood := { row := fnReaderReadsOnAsFreshRow, standIns := [], harness := (true, "63dec33c8ce2531f66eb51bea76ddc2bcd91d6655cc432a891a1a642bd1786a8"), looks := true }, told := true, laidByText := true, laidKinds := [.sentinel, .sentinel, .sentinel, .sentinel, .sentinel, .sentinel, .sentinel, .sentinel], laidTests := true, laidLooks := .later, goes := false }
def FnReaderReadsOnAsFreshToldSaid : Prop := Claim7.holds Tryf.pinned (.plain (OpenSpec.ofChange fnReaderReadsOnAsFreshSpec)) fnReaderReadsOnAsFreshCard
/-- ITS FALSE NEIGHBOUR. Refute it at one input. -/
def FnReaderReadsOnAsFreshToldWrongFalsely : Prop := Claim7.holds Tryf.pinned (.plain (OpenSpec.ofChange fnReaderReadsOnAsFreshWrong)) fnReaderReadsOnAsFreshCard
end Rows
end Go.Proofs.Qxb6614532aFmt
