/-
  No cell of these rows narrows 'for every input' (looked for: loops, veiled, ifaces, maps, wideKeys, modest, calm, conditions, laid).
  DERIVED. THE GIVEN ROWS OF THIS SEAT. 4 by the template 'for every input the law returns true; each argument reads behind the call as it read before'; 0 by the template 'total and deterministic' (their statements: Qxb6615564aTotals.lean).
  GIVEN WITH THE SEED: the statements are not yours to turn. If you find one false, say at which input.
  Laid BY PROGRAM, IN A SANDBOX (cutbox-rows.mjs): the forced cells as the released guide's own fill.sh prints them over the translation 8ac60a7cb0ccf09e… (all of the seat's roots in one cut). By AI agents, Wed Nov 11 2026. No macro, syntax, notation, axiom, sorry.
-/
import Derived.Test.Qxb6615564aChecked
import GoSem.Claim
import GoSem.ClaimJoined
import GoSem.ClaimMapViews
import Derived.JoinedTies
import Derived.KernelRfl
namespace Go.Proofs.Qxb6615564a
/- THE CELL 'sum', in the pinned program and in every row, IS THE sha256 OF THE DUMP (.gsa) THAT Qxb6615564aProg.lean LOADS. Nothing in Lean hashes anything: it is a label: what it is worth is what the hold of that sum in a sandbox is worth. -/
noncomputable def Try.pinned : Pinned := { name := "qxb6615564a", sum := "8ac60a7cb0ccf09e5a21f1f0758627b0d350a8f04ba81b24629a6d995b4cade5", checked := Try.checked }
namespace Rows
def none {H : Type} : Left H := { results := [], args := [] }

/-- 'zzlaws_root_b1.FnReplyHeapRemoveKeepsIndexAndOrder': WHATEVER THE INPUT: true; the input reads as it did. -/
def fnReplyHeapRemoveKeepsIndexAndOrderSpec : ChangeSpec := { name := "fnReplyHeapRemoveKeepsIndexAndOrder", fn := fun _ => fun
  | [d1, d2] => { results := [.lit (.bool true)], args := [d1, d2] }
  | _ => none }
def fnReplyHeapRemoveKeepsIndexAndOrderRow : OpenClaim := { program := "qxb6615564a", sum := "8ac60a7cb0ccf09e5a21f1f0758627b0d350a8f04ba81b24629a6d995b4cade5", func := "example.com/volley/volley/zzlaws_root_b1.FnReplyHeapRemoveKeepsIndexAndOrder", spec := "fnReplyHeapRemoveKeepsIndexAndOrder", unfollowed := true, recurses := true, apart := false }
def FnReplyHeapRemoveKeepsIndexAndOrderSaid : Prop := fnReplyHeapRemoveKeepsIndexAndOrderRow.holds Try.pinned (OpenSpec.ofChange fnReplyHeapRemoveKeepsIndexAndOrderSpec)

/-- ITS FALSE NEIGHBOUR: 'it returns false'. Refute it at one input. -/
def fnReplyHeapRemoveKeepsIndexAndOrderWrong : ChangeSpec := { name := "fnReplyHeapRemoveKeepsIndexAndOrder", fn := fun _ => fun
  | [d1, d2] => { results := [.lit (.bool false)], args := [d1, d2] }
  | _ => none }
def FnReplyHeapRemoveKeepsIndexAndOrderWrongFalsely : Prop := fnReplyHeapRemoveKeepsIndexAndOrderRow.holds Try.pinned (OpenSpec.ofChange fnReplyHeapRemoveKeepsIndexAndOrderWrong)

/-- 'zzlaws_root_b1.FnReplyHeapRemoveTwiceFrontIsLeast': WHATEVER THE INPUT: true; the input reads as it did. -/
def fnReplyHeapRemoveTwiceFrontIsLeastSpec : ChangeSpec := { name := "fnReplyHeapRemoveTwiceFrontIsLeast", fn := fun _ => fun
  | [d1, d2] => { results := [.lit (.bool true)], args := [d1, d2] }
  | _ => none }
def fnReplyHeapRemoveTwiceFrontIsLeastRow : OpenClaim := { program := "qxb6615564a", sum := "8ac60a7cb0ccf09e5a21f1f0758627b0d350a8f04ba81b24629a6d995b4cade5", func := "example.com/volley/volley/zzlaws_root_b1.FnReplyHeapRemoveTwiceFrontIsLeast", spec := "fnReplyHeapRemoveTwiceFrontIsLeast", unfollowed := true, recurses := true, apart := false }
def FnReplyHeapRemoveTwiceFrontIsLeastSaid : Prop := fnReplyHeapRemoveTwiceFrontIsLeastRow.holds Try.pinned (OpenSpec.ofChange fnReplyHeapRemoveTwiceFrontIsLeastSpec)

/-- ITS FALSE NEIGHBOUR: 'it returns false'. Refute it at one input. -/
def fnReplyHeapRemoveTwiceFrontIsLeastWrong : ChangeSpec := { name := "fnReplyHeapRemoveTwiceFrontIsLeast", fn := fun _ => fun
  | [d1, d2] => { results := [.lit (.bool false)], args := [d1, d2] }
  | _ => none }
def FnReplyHeapRemoveTwiceFrontIsLeastWrongFalsely : Prop := fnReplyHeapRemoveTwiceFrontIsLeastRow.holds Try.pinned (OpenSpec.ofChange fnReplyHeapRemoveTwiceFrontIsLeastWrong)

/-- 'zzlaws_root_b1.FnMessageIDInsertedMember': WHATEVER THE INPUT: true; the input reads as it did. -/
def fnMessageIDInsertedMemberSpec : ChangeSpec := { name := "fnMessageIDInsertedMember", fn := fun _ => fun
  | [d1, d2, d3, d4, d5, d6, d7, d8] => { results := [.lit (.bool true)], args := [d1, d2, d3, d4, d5, d6, d7, d8] }
  | _ => none }
def fnMessageIDInsertedMemberRow : OpenClaim := { program := "qxb6615564a", sum := "8ac60a7cb0ccf09e5a21f1f0758627b0d350a8f04ba81b24629a6d995b4cade5", func := "example.com/volley/volley/zzlaws_root_b1.FnMessageIDInsertedMember", spec := "fnMessageIDInsertedMember", apart := false }
def FnMessageIDInsertedMemberSaid : Prop := fnMessageIDInsertedMemberRow.holds Try.pinned (OpenSpec.ofChange fnMessageIDInsertedMemberSpec)

/-- ITS FALSE NEIGHBOUR: 'it returns false'. Refute it at one input. -/
def fnMessageIDInsertedMemberWrong : ChangeSpec := { name := "fnMessageIDInsertedMember", fn := fun _ => fun
  | [d1, d2, d3, d4, d5, d6, d7, d8] => { results := [.lit (.bool false)], args := [d1, d2, d3, d4, d5, d6, d7, d8] }
  | _ => none }
def FnMessageIDInsertedMemberWrongFalsely : Prop := fnMessageIDInsertedMemberRow.holds Try.pinned (OpenSpec.ofChange fnMessageIDInsertedMemberWrong)

/-- 'zzlaws_root_b1.FnMessageIDCutAndNoSpill': WHATEVER THE INPUT: true; the input reads as it did. -/
def fnMessageIDCutAndNoSpillSpec : ChangeSpec := { name := "fnMessageIDCutAndNoSpill", fn := fun _ => fun
  | [d1, d2, d3, d4, d5] => { results := [.lit (.bool true)], args := [d1, d2, d3, d4, d5] }
  | _ => none }
def fnMessageIDCutAndNoSpillRow : OpenClaim := { program := "qxb6615564a", sum := "8ac60a7cb0ccf09e5a21f1f0758627b0d350a8f04ba81b24629a6d995b4cade5", func := "example.com/volley/volley/zzlaws_root_b1.FnMessageIDCutAndNoSpill", spec := "fnMessageIDCutAndNoSpill", apart := false }
def FnMessageIDCutAndNoSpillSaid : Prop := fnMessageIDCutAndNoSpillRow.holds Try.pinned (OpenSpec.ofChange fnMessageIDCutAndNoSpillSpec)

/-- ITS FALSE NEIGHBOUR: 'it returns false'. Refute it at one input. -/
def fnMessageIDCutAndNoSpillWrong : ChangeSpec := { name := "fnMessageIDCutAndNoSpill", fn := fun _ => fun
  | [d1, d2, d3, d4, d5] => { results := [.lit (.bool false)], args := [d1, d2, d3, d4, d5] }
  | _ => none }
def FnMessageIDCutAndNoSpillWrongFalsely : Prop := fnMessageIDCutAndNoSpillRow.holds Try.pinned (OpenSpec.ofChange fnMessageIDCutAndNoSpillWrong)

end Rows
end Go.Proofs.Qxb6615564a
