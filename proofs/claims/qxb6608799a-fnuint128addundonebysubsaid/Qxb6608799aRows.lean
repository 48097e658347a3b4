/-
  No cell of these rows narrows 'for every input' (looked for: loops, veiled, ifaces, maps, wideKeys, modest, calm, conditions, laid).
  DERIVED. THE GIVEN ROWS OF THIS SEAT. 2 by the template 'for every input the law returns true; each argument reads behind the call as it read before'; 0 by the template 'total and deterministic' (their statements: Qxb6608799aTotals.lean).
  GIVEN WITH THE SEED: the statements are not yours to turn. If you find one false, say at which input.
  Laid BY PROGRAM, IN A SANDBOX (cutbox-rows.mjs): the forced cells as the released guide's own fill.sh prints them over the translation 671083b38c8fecad… (all of the seat's roots in one cut). By AI agents, Wed Nov 11 2026. No macro, syntax, notation, axiom, sorry.
-/
import Derived.Test.Qxb6608799aChecked
import GoSem.Claim
import GoSem.ClaimJoined
import GoSem.ClaimMapViews
import Derived.JoinedTies
import Derived.KernelRfl
namespace Go.Proofs.Qxb6608799a
/- THE CELL 'sum', in the pinned program and in every row, IS THE sha256 OF THE DUMP (.gsa) THAT Qxb6608799aProg.lean LOADS. Nothing in Lean hashes anything: it is a label: what it is worth is what the hold of that sum in a sandbox is worth. -/
noncomputable def Try.pinned : Pinned := { name := "qxb6608799a", sum := "671083b38c8fecad3add6ab5f39f855a5d8feeb8d001f3c553d48dfe0f67b38d", checked := Try.checked }
namespace Rows
def none {H : Type} : Left H := { results := [], args := [] }

/-- 'zzlaws_root_b1.FnUint128AddUndoneBySub': WHATEVER THE INPUT: true; the input reads as it did. -/
def fnUint128AddUndoneBySubSpec : ChangeSpec := { name := "fnUint128AddUndoneBySub", fn := fun _ => fun
  | [d1, d2, d3, d4] => { results := [.lit (.bool true)], args := [d1, d2, d3, d4] }
  | _ => none }
def fnUint128AddUndoneBySubRow : OpenClaim := { program := "qxb6608799a", sum := "671083b38c8fecad3add6ab5f39f855a5d8feeb8d001f3c553d48dfe0f67b38d", func := "example.com/marginline/marginline/zzlaws_root_b1.FnUint128AddUndoneBySub", spec := "fnUint128AddUndoneBySub", inPlace := ["math/bits.Add64", "math/bits.Sub64"], apart := false }
def FnUint128AddUndoneBySubSaid : Prop := fnUint128AddUndoneBySubRow.holds Try.pinned (OpenSpec.ofChange fnUint128AddUndoneBySubSpec)

/-- ITS FALSE NEIGHBOUR: 'it returns false'. Refute it at one input. -/
def fnUint128AddUndoneBySubWrong : ChangeSpec := { name := "fnUint128AddUndoneBySub", fn := fun _ => fun
  | [d1, d2, d3, d4] => { results := [.lit (.bool false)], args := [d1, d2, d3, d4] }
  | _ => none }
def FnUint128AddUndoneBySubWrongFalsely : Prop := fnUint128AddUndoneBySubRow.holds Try.pinned (OpenSpec.ofChange fnUint128AddUndoneBySubWrong)

/-- 'zzlaws_root_b1.FnUint128AddAssociativeCommutative': WHATEVER THE INPUT: true; the input reads as it did. -/
def fnUint128AddAssociativeCommutativeSpec : ChangeSpec := { name := "fnUint128AddAssociativeCommutative", fn := fun _ => fun
  | [d1, d2, d3, d4, d5, d6] => { results := [.lit (.bool true)], args := [d1, d2, d3, d4, d5, d6] }
  | _ => none }
def fnUint128AddAssociativeCommutativeRow : OpenClaim := { program := "qxb6608799a", sum := "671083b38c8fecad3add6ab5f39f855a5d8feeb8d001f3c553d48dfe0f67b38d", func := "example.com/marginline/marginline/zzlaws_root_b1.FnUint128AddAssociativeCommutative", spec := "fnUint128AddAssociativeCommutative", inPlace := ["math/bits.Add64", "math/bits.Sub64"], apart := false }
def FnUint128AddAssociativeCommutativeSaid : Prop := fnUint128AddAssociativeCommutativeRow.holds Try.pinned (OpenSpec.ofChange fnUint128AddAssociativeCommutativeSpec)

/-- ITS FALSE NEIGHBOUR: 'it returns false'. Refute it at one input. -/
def fnUint128AddAssociativeCommutativeWrong : ChangeSpec := { name := "fnUint128AddAssociativeCommutative", fn := fun _ => fun
  | [d1, d2, d3, d4, d5, d6] => { results := [.lit (.bool false)], args := [d1, d2, d3, d4, d5, d6] }
  | _ => none }
def FnUint128AddAssociativeCommutativeWrongFalsely : Prop := fnUint128AddAssociativeCommutativeRow.holds Try.pinned (OpenSpec.ofChange fnUint128AddAssociativeCommutativeWrong)

end Rows
end Go.Proofs.Qxb6608799a
