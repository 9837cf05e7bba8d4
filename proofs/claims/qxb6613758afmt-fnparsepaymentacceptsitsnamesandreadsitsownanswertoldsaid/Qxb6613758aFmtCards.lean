/-
  DERIVED. GIVEN WITH THE SEED: THE CARDS: each row of Qxb6613758aFmtRows.lean that lists a variable, with what it lists TIED to the program's text (the seventh form; the later family's looks); each row that meets fmt, with fmt's text TOLD by the authors' own Lean function (tested against real Go, not proved from fmt's source: count such statements apart). THE CARD IS WHAT COUNTS. Prove the row's statement (the work); the ties are given (Qxb6613758aFmtTie.lean); close each card by the builder's one call (the guide's Derived/Test/ToyasCard.lean, 'card_holds'). Laid BY PROGRAM, IN A SANDBOX (cutbox-door.mjs). By AI agents, Wed Nov 11 2026. No macro, syntax, notation, axiom, sorry.
-/
import Derived.Test.Qxb6613758aFmtRows
import GoSem.ClaimSeven
namespace Go.Proofs.Qxb6613758aFmt
namespace Rows

/-- THE TOLD CARD OF 'zzlaws_root_b1.FnParsePaymentAcceptsItsNamesAndReadsItsOwnAnswer'. -/
def fnParsePaymentAcceptsItsNamesAndReadsItsOwnAnswerCard : Claim7 := { stood := { row := fnParsePaymentAcceptsItsNamesAndReadsItsOwnAnswerRow, standIns := [], harness := (true, "4e560378664d9738fc02c8c6ec701773c1cc3adb7abd49eb9ce4f63f9715c86e"), looks := false }, told := true, goes := false }
def FnParsePaymentAcceptsItsNamesAndReadsItsOwnAnswerToldSaid : Prop := Claim7.holds Tryf.pinned (.plain (OpenSpec.ofChange fnParsePaymentAcceptsItsNamesAndReadsItsOwnAnswerSpec)) fnParsePaymentAcceptsItsNamesAndReadsItsOwnAnswerCard
/-- ITS FALSE NEIGHBOUR. Refute it at one input. -/
def FnParsePaymentAcceptsItsNamesAndReadsItsOwnAnswerToldWrongFalsely : Prop := Claim7.holds Tryf.pinned (.plain (OpenSpec.ofChange fnParsePaymentAcceptsItsNamesAndReadsItsOwnAnswerWrong)) fnParsePaymentAcceptsItsNamesAndReadsItsOwnAnswerCard
end Rows
end Go.Proofs.Qxb6613758aFmt
