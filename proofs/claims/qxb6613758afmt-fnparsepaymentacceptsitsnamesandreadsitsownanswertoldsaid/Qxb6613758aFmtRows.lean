/-
  No cell of these rows narrows 'for every input' (looked for: loops, veiled, ifaces, maps, wideKeys, modest, calm, conditions, laid).
  DERIVED. THE GIVEN ROWS OF THIS SEAT. 1 by the template 'for every input the law returns true; each argument reads behind the call as it read before'; 0 by the template 'total and deterministic' (their statements: Qxb6613758aFmtTotals.lean).
  GIVEN WITH THE SEED: the statements are not yours to turn. If you find one false, say at which input.
  Laid BY PROGRAM, IN A SANDBOX (cutbox-rows.mjs): the forced cells as the released guide's own fill.sh prints them over the translation e2f65b1e8d1726c5… (all of the seat's roots in one cut). By AI agents, Wed Nov 11 2026. No macro, syntax, notation, axiom, sorry.
-/
import Derived.Test.Qxb6613758aFmtChecked
import GoSem.Claim
import GoSem.ClaimJoined
import GoSem.ClaimMapViews
import Derived.JoinedTies
import Derived.KernelRfl
namespace Go.Proofs.Qxb6613758aFmt
/- THE CELL 'sum', in the pinned program and in every row, IS THE sha256 OF THE DUMP (.gsa) THAT Qxb6613758aFmtProg.lean LOADS. Nothing in Lean hashes anything: it is a label: what it is worth is what the hold of that sum in a sandbox is worth. -/
noncomputable def Tryf.pinned : Pinned := { name := "qxb6613758afmt", sum := "e2f65b1e8d1726c511121adfbca3959bf0e5a35bf47c077b502d422fe5f95aa7", checked := Tryf.checked }
namespace Rows
def none {H : Type} : Left H := { results := [], args := [] }

/-- 'zzlaws_root_b1.FnParsePaymentAcceptsItsNamesAndReadsItsOwnAnswer': WHATEVER THE INPUT: true; the input reads as it did. -/
def fnParsePaymentAcceptsItsNamesAndReadsItsOwnAnswerSpec : ChangeSpec := { name := "fnParsePaymentAcceptsItsNamesAndReadsItsOwnAnswer", fn := fun _ => fun
  | [d] => { results := [.lit (.bool true)], args := [d] }
  | _ => none }
def fnParsePaymentAcceptsItsNamesAndReadsItsOwnAnswerRow : OpenClaim := { program := "qxb6613758afmt", sum := "e2f65b1e8d1726c511121adfbca3959bf0e5a35bf47c077b502d422fe5f95aa7", func := "example.com/zhaomu/zhaomu/zzlaws_root_b1.FnParsePaymentAcceptsItsNamesAndReadsItsOwnAnswer", spec := "fnParsePaymentAcceptsItsNamesAndReadsItsOwnAnswer", stops := ["fmt.errorf"], inPlace := ["fmt.errorf"], apart := false }
/-- NO THEOREM (fmt's text is open here; it may be false): for the released tool's asking of the row's closed facts alone. THE STATEMENT IS 'FnParsePaymentAcceptsItsNamesAndReadsItsOwnAnswerToldSaid' (Qxb6613758aFmtCards.lean). -/
def FnParsePaymentAcceptsItsNamesAndReadsItsOwnAnswerFormAsk : Prop := fnParsePaymentAcceptsItsNamesAndReadsItsOwnAnswerRow.holds Tryf.pinned (OpenSpec.ofChange fnParsePaymentAcceptsItsNamesAndReadsItsOwnAnswerSpec)

/-- ITS FALSE NEIGHBOUR: 'it returns false'. Refute it at one input. -/
def fnParsePaymentAcceptsItsNamesAndReadsItsOwnAnswerWrong : ChangeSpec := { name := "fnParsePaymentAcceptsItsNamesAndReadsItsOwnAnswer", fn := fun _ => fun
  | [d] => { results := [.lit (.bool false)], args := [d] }
  | _ => none }
def FnParsePaymentAcceptsItsNamesAndReadsItsOwnAnswerWrongFormAsk : Prop := fnParsePaymentAcceptsItsNamesAndReadsItsOwnAnswerRow.holds Tryf.pinned (OpenSpec.ofChange fnParsePaymentAcceptsItsNamesAndReadsItsOwnAnswerWrong)

end Rows
end Go.Proofs.Qxb6613758aFmt
