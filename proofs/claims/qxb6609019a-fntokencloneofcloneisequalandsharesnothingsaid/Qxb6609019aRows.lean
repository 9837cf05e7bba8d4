/-
  No cell of these rows narrows 'for every input' (looked for: loops, veiled, ifaces, maps, wideKeys, modest, calm, conditions, laid).
  DERIVED. THE GIVEN ROWS OF THIS SEAT. 4 by the template 'for every input the law returns true; each argument reads behind the call as it read before'; 0 by the template 'total and deterministic' (their statements: Qxb6609019aTotals.lean).
  GIVEN WITH THE SEED: the statements are not yours to turn. If you find one false, say at which input.
  Laid BY PROGRAM, IN A SANDBOX (cutbox-rows.mjs): the forced cells as the released guide's own fill.sh prints them over the translation 8f17457f3c312870… (all of the seat's roots in one cut). By AI agents, Wed Nov 11 2026. No macro, syntax, notation, axiom, sorry.
-/
import Derived.Test.Qxb6609019aChecked
import GoSem.Claim
import GoSem.ClaimJoined
import GoSem.ClaimMapViews
import Derived.JoinedTies
import Derived.KernelRfl
namespace Go.Proofs.Qxb6609019a
/- THE CELL 'sum', in the pinned program and in every row, IS THE sha256 OF THE DUMP (.gsa) THAT Qxb6609019aProg.lean LOADS. Nothing in Lean hashes anything: it is a label: what it is worth is what the hold of that sum in a sandbox is worth. -/
noncomputable def Try.pinned : Pinned := { name := "qxb6609019a", sum := "8f17457f3c31287030d99266c35158f8fd400ecb1b93cdf3e240b3fea80e7e82", checked := Try.checked }
namespace Rows
def none {H : Type} : Left H := { results := [], args := [] }

/-- 'zzlaws_store_b1.FnIsUUIDIsCanonicalTextOfSixteenBytes': WHATEVER THE INPUT: true; the input reads as it did. -/
def fnIsUUIDIsCanonicalTextOfSixteenBytesSpec : ChangeSpec := { name := "fnIsUUIDIsCanonicalTextOfSixteenBytes", fn := fun _ => fun
  | [d] => { results := [.lit (.bool true)], args := [d] }
  | _ => none }
def fnIsUUIDIsCanonicalTextOfSixteenBytesRow : OpenClaim := { program := "qxb6609019a", sum := "8f17457f3c31287030d99266c35158f8fd400ecb1b93cdf3e240b3fea80e7e82", func := "example.com/grantwell/grantwell/zzlaws_store_b1.FnIsUUIDIsCanonicalTextOfSixteenBytes", spec := "fnIsUUIDIsCanonicalTextOfSixteenBytes", apart := false }
def FnIsUUIDIsCanonicalTextOfSixteenBytesSaid : Prop := fnIsUUIDIsCanonicalTextOfSixteenBytesRow.holds Try.pinned (OpenSpec.ofChange fnIsUUIDIsCanonicalTextOfSixteenBytesSpec)

/-- ITS FALSE NEIGHBOUR: 'it returns false'. Refute it at one input. -/
def fnIsUUIDIsCanonicalTextOfSixteenBytesWrong : ChangeSpec := { name := "fnIsUUIDIsCanonicalTextOfSixteenBytes", fn := fun _ => fun
  | [d] => { results := [.lit (.bool false)], args := [d] }
  | _ => none }
def FnIsUUIDIsCanonicalTextOfSixteenBytesWrongFalsely : Prop := fnIsUUIDIsCanonicalTextOfSixteenBytesRow.holds Try.pinned (OpenSpec.ofChange fnIsUUIDIsCanonicalTextOfSixteenBytesWrong)

/-- 'zzlaws_store_b1.FnIsUUIDAcceptsCanonicalTextAndExactlyItsGoodOneByteEdits': WHATEVER THE INPUT: true; the input reads as it did. -/
def fnIsUUIDAcceptsCanonicalTextAndExactlyItsGoodOneByteEditsSpec : ChangeSpec := { name := "fnIsUUIDAcceptsCanonicalTextAndExactlyItsGoodOneByteEdits", fn := fun _ => fun
  | [d1, d2, d3] => { results := [.lit (.bool true)], args := [d1, d2, d3] }
  | _ => none }
def fnIsUUIDAcceptsCanonicalTextAndExactlyItsGoodOneByteEditsRow : OpenClaim := { program := "qxb6609019a", sum := "8f17457f3c31287030d99266c35158f8fd400ecb1b93cdf3e240b3fea80e7e82", func := "example.com/grantwell/grantwell/zzlaws_store_b1.FnIsUUIDAcceptsCanonicalTextAndExactlyItsGoodOneByteEdits", spec := "fnIsUUIDAcceptsCanonicalTextAndExactlyItsGoodOneByteEdits", apart := false }
def FnIsUUIDAcceptsCanonicalTextAndExactlyItsGoodOneByteEditsSaid : Prop := fnIsUUIDAcceptsCanonicalTextAndExactlyItsGoodOneByteEditsRow.holds Try.pinned (OpenSpec.ofChange fnIsUUIDAcceptsCanonicalTextAndExactlyItsGoodOneByteEditsSpec)

/-- ITS FALSE NEIGHBOUR: 'it returns false'. Refute it at one input. -/
def fnIsUUIDAcceptsCanonicalTextAndExactlyItsGoodOneByteEditsWrong : ChangeSpec := { name := "fnIsUUIDAcceptsCanonicalTextAndExactlyItsGoodOneByteEdits", fn := fun _ => fun
  | [d1, d2, d3] => { results := [.lit (.bool false)], args := [d1, d2, d3] }
  | _ => none }
def FnIsUUIDAcceptsCanonicalTextAndExactlyItsGoodOneByteEditsWrongFalsely : Prop := fnIsUUIDAcceptsCanonicalTextAndExactlyItsGoodOneByteEditsRow.holds Try.pinned (OpenSpec.ofChange fnIsUUIDAcceptsCanonicalTextAndExactlyItsGoodOneByteEditsWrong)

/-- 'zzlaws_store_b1.FnTokenCloneOfCloneIsEqualAndSharesNothing': WHATEVER THE INPUT: true; the input reads as it did. -/
def fnTokenCloneOfCloneIsEqualAndSharesNothingSpec : ChangeSpec := { name := "fnTokenCloneOfCloneIsEqualAndSharesNothing", fn := fun _ => fun
  | [d] => { results := [.lit (.bool true)], args := [d] }
  | _ => none }
def fnTokenCloneOfCloneIsEqualAndSharesNothingRow : OpenClaim := { program := "qxb6609019a", sum := "8f17457f3c31287030d99266c35158f8fd400ecb1b93cdf3e240b3fea80e7e82", func := "example.com/grantwell/grantwell/zzlaws_store_b1.FnTokenCloneOfCloneIsEqualAndSharesNothing", spec := "fnTokenCloneOfCloneIsEqualAndSharesNothing", apart := false }
def FnTokenCloneOfCloneIsEqualAndSharesNothingSaid : Prop := fnTokenCloneOfCloneIsEqualAndSharesNothingRow.holds Try.pinned (OpenSpec.ofChange fnTokenCloneOfCloneIsEqualAndSharesNothingSpec)

/-- ITS FALSE NEIGHBOUR: 'it returns false'. Refute it at one input. -/
def fnTokenCloneOfCloneIsEqualAndSharesNothingWrong : ChangeSpec := { name := "fnTokenCloneOfCloneIsEqualAndSharesNothing", fn := fun _ => fun
  | [d] => { results := [.lit (.bool false)], args := [d] }
  | _ => none }
def FnTokenCloneOfCloneIsEqualAndSharesNothingWrongFalsely : Prop := fnTokenCloneOfCloneIsEqualAndSharesNothingRow.holds Try.pinned (OpenSpec.ofChange fnTokenCloneOfCloneIsEqualAndSharesNothingWrong)

/-- 'zzlaws_store_b1.FnTokenCloneIsASnapshotOfTheToken': WHATEVER THE INPUT: true; the input reads as it did. -/
def fnTokenCloneIsASnapshotOfTheTokenSpec : ChangeSpec := { name := "fnTokenCloneIsASnapshotOfTheToken", fn := fun _ => fun
  | [d] => { results := [.lit (.bool true)], args := [d] }
  | _ => none }
def fnTokenCloneIsASnapshotOfTheTokenRow : OpenClaim := { program := "qxb6609019a", sum := "8f17457f3c31287030d99266c35158f8fd400ecb1b93cdf3e240b3fea80e7e82", func := "example.com/grantwell/grantwell/zzlaws_store_b1.FnTokenCloneIsASnapshotOfTheToken", spec := "fnTokenCloneIsASnapshotOfTheToken", apart := false }
def FnTokenCloneIsASnapshotOfTheTokenSaid : Prop := fnTokenCloneIsASnapshotOfTheTokenRow.holds Try.pinned (OpenSpec.ofChange fnTokenCloneIsASnapshotOfTheTokenSpec)

/-- ITS FALSE NEIGHBOUR: 'it returns false'. Refute it at one input. -/
def fnTokenCloneIsASnapshotOfTheTokenWrong : ChangeSpec := { name := "fnTokenCloneIsASnapshotOfTheToken", fn := fun _ => fun
  | [d] => { results := [.lit (.bool false)], args := [d] }
  | _ => none }
def FnTokenCloneIsASnapshotOfTheTokenWrongFalsely : Prop := fnTokenCloneIsASnapshotOfTheTokenRow.holds Try.pinned (OpenSpec.ofChange fnTokenCloneIsASnapshotOfTheTokenWrong)

end Rows
end Go.Proofs.Qxb6609019a
