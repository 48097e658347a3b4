/-
  No cell of these rows narrows 'for every input' (looked for: loops, veiled, ifaces, maps, wideKeys, modest, calm, conditions, laid).
  DERIVED. THE GIVEN ROWS OF THIS SEAT. 3 by the template 'for every input the law returns true; each argument reads behind the call as it read before'; 0 by the template 'total and deterministic' (their statements: Qxb6608867aTotals.lean).
  GIVEN WITH THE SEED: the statements are not yours to turn. If you find one false, say at which input.
  Laid BY PROGRAM, IN A SANDBOX (cutbox-rows.mjs): the forced cells as the released guide's own fill.sh prints them over the translation 878194518a56a4fb… (all of the seat's roots in one cut). By AI agents, Wed Nov 11 2026. No macro, syntax, notation, axiom, sorry.
-/
import Derived.Test.Qxb6608867aChecked
import GoSem.Claim
import GoSem.ClaimJoined
import GoSem.ClaimMapViews
import Derived.JoinedTies
import Derived.KernelRfl
namespace Go.Proofs.Qxb6608867a
/- THE CELL 'sum', in the pinned program and in every row, IS THE sha256 OF THE DUMP (.gsa) THAT Qxb6608867aProg.lean LOADS. Nothing in Lean hashes anything: it is a label: what it is worth is what the hold of that sum in a sandbox is worth. -/
noncomputable def Try.pinned : Pinned := { name := "qxb6608867a", sum := "878194518a56a4fb005707b1019616a9ee422b60229809fde1000378733be41e", checked := Try.checked }
namespace Rows
def none {H : Type} : Left H := { results := [], args := [] }

/-- 'zzlaws_internal_handshake_b1.FnServerHelloDoneHeaderParsesToEmptyBody': WHATEVER THE INPUT: true; the input reads as it did. -/
def fnServerHelloDoneHeaderParsesToEmptyBodySpec : ChangeSpec := { name := "fnServerHelloDoneHeaderParsesToEmptyBody", fn := fun _ => fun
  | [] => { results := [.lit (.bool true)], args := [] }
  | _ => none }
def fnServerHelloDoneHeaderParsesToEmptyBodyRow : OpenClaim := { program := "qxb6608867a", sum := "878194518a56a4fb005707b1019616a9ee422b60229809fde1000378733be41e", func := "example.com/reknot/reknot/zzlaws_internal_handshake_b1.FnServerHelloDoneHeaderParsesToEmptyBody", spec := "fnServerHelloDoneHeaderParsesToEmptyBody", apart := false }
def FnServerHelloDoneHeaderParsesToEmptyBodySaid : Prop := fnServerHelloDoneHeaderParsesToEmptyBodyRow.holds Try.pinned (OpenSpec.ofChange fnServerHelloDoneHeaderParsesToEmptyBodySpec)

/-- ITS FALSE NEIGHBOUR: 'it returns false'. Refute it at one input. -/
def fnServerHelloDoneHeaderParsesToEmptyBodyWrong : ChangeSpec := { name := "fnServerHelloDoneHeaderParsesToEmptyBody", fn := fun _ => fun
  | [] => { results := [.lit (.bool false)], args := [] }
  | _ => none }
def FnServerHelloDoneHeaderParsesToEmptyBodyWrongFalsely : Prop := fnServerHelloDoneHeaderParsesToEmptyBodyRow.holds Try.pinned (OpenSpec.ofChange fnServerHelloDoneHeaderParsesToEmptyBodyWrong)

/-- 'zzlaws_internal_handshake_b1.FnServerHelloDoneFreshBufferEachCall': WHATEVER THE INPUT: true; the input reads as it did. -/
def fnServerHelloDoneFreshBufferEachCallSpec : ChangeSpec := { name := "fnServerHelloDoneFreshBufferEachCall", fn := fun _ => fun
  | [] => { results := [.lit (.bool true)], args := [] }
  | _ => none }
def fnServerHelloDoneFreshBufferEachCallRow : OpenClaim := { program := "qxb6608867a", sum := "878194518a56a4fb005707b1019616a9ee422b60229809fde1000378733be41e", func := "example.com/reknot/reknot/zzlaws_internal_handshake_b1.FnServerHelloDoneFreshBufferEachCall", spec := "fnServerHelloDoneFreshBufferEachCall", apart := false }
def FnServerHelloDoneFreshBufferEachCallSaid : Prop := fnServerHelloDoneFreshBufferEachCallRow.holds Try.pinned (OpenSpec.ofChange fnServerHelloDoneFreshBufferEachCallSpec)

/-- ITS FALSE NEIGHBOUR: 'it returns false'. Refute it at one input. -/
def fnServerHelloDoneFreshBufferEachCallWrong : ChangeSpec := { name := "fnServerHelloDoneFreshBufferEachCall", fn := fun _ => fun
  | [] => { results := [.lit (.bool false)], args := [] }
  | _ => none }
def FnServerHelloDoneFreshBufferEachCallWrongFalsely : Prop := fnServerHelloDoneFreshBufferEachCallRow.holds Try.pinned (OpenSpec.ofChange fnServerHelloDoneFreshBufferEachCallWrong)

/-- 'zzlaws_internal_handshake_b1.FnEmptyAfterServerHelloDoneHeaderIffNothingFollows': WHATEVER THE INPUT: true; the input reads as it did. -/
def fnEmptyAfterServerHelloDoneHeaderIffNothingFollowsSpec : ChangeSpec := { name := "fnEmptyAfterServerHelloDoneHeaderIffNothingFollows", fn := fun _ => fun
  | [d1, d2] => { results := [.lit (.bool true)], args := [d1, d2] }
  | _ => none }
def fnEmptyAfterServerHelloDoneHeaderIffNothingFollowsRow : OpenClaim := { program := "qxb6608867a", sum := "878194518a56a4fb005707b1019616a9ee422b60229809fde1000378733be41e", func := "example.com/reknot/reknot/zzlaws_internal_handshake_b1.FnEmptyAfterServerHelloDoneHeaderIffNothingFollows", spec := "fnEmptyAfterServerHelloDoneHeaderIffNothingFollows", apart := false }
def FnEmptyAfterServerHelloDoneHeaderIffNothingFollowsSaid : Prop := fnEmptyAfterServerHelloDoneHeaderIffNothingFollowsRow.holds Try.pinned (OpenSpec.ofChange fnEmptyAfterServerHelloDoneHeaderIffNothingFollowsSpec)

/-- ITS FALSE NEIGHBOUR: 'it returns false'. Refute it at one input. -/
def fnEmptyAfterServerHelloDoneHeaderIffNothingFollowsWrong : ChangeSpec := { name := "fnEmptyAfterServerHelloDoneHeaderIffNothingFollows", fn := fun _ => fun
  | [d1, d2] => { results := [.lit (.bool false)], args := [d1, d2] }
  | _ => none }
def FnEmptyAfterServerHelloDoneHeaderIffNothingFollowsWrongFalsely : Prop := fnEmptyAfterServerHelloDoneHeaderIffNothingFollowsRow.holds Try.pinned (OpenSpec.ofChange fnEmptyAfterServerHelloDoneHeaderIffNothingFollowsWrong)

end Rows
end Go.Proofs.Qxb6608867a
