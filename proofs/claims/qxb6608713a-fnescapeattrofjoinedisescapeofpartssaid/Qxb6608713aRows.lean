/-
  No cell of these rows narrows 'for every input' (looked for: loops, veiled, ifaces, maps, wideKeys, modest, calm, conditions, laid).
  DERIVED. THE GIVEN ROWS OF THIS SEAT. 4 by the template 'for every input the law returns true; each argument reads behind the call as it read before'; 0 by the template 'total and deterministic' (their statements: Qxb6608713aTotals.lean).
  GIVEN WITH THE SEED: the statements are not yours to turn. If you find one false, say at which input.
  Laid BY PROGRAM, IN A SANDBOX (cutbox-rows.mjs): the forced cells as the released guide's own fill.sh prints them over the translation ccb89afc44dcf121… (all of the seat's roots in one cut). By AI agents, Wed Nov 11 2026. No macro, syntax, notation, axiom, sorry.
-/
import Derived.Test.Qxb6608713aChecked
import GoSem.Claim
import GoSem.ClaimJoined
import GoSem.ClaimMapViews
import Derived.JoinedTies
import Derived.KernelRfl
namespace Go.Proofs.Qxb6608713a
/- THE CELL 'sum', in the pinned program and in every row, IS THE sha256 OF THE DUMP (.gsa) THAT Qxb6608713aProg.lean LOADS. Nothing in Lean hashes anything: it is a label: what it is worth is what the hold of that sum in a sandbox is worth. -/
noncomputable def Try.pinned : Pinned := { name := "qxb6608713a", sum := "ccb89afc44dcf121660658a3218a5ba13e27e41f75f257e4ad130d6f39b8012c", checked := Try.checked }
namespace Rows
def none {H : Type} : Left H := { results := [], args := [] }

/-- 'zzlaws_internal_xmlread_b1.FnEscapeAttrIsTheCanonicalAttributeText': WHATEVER THE INPUT: true; the input reads as it did. -/
def fnEscapeAttrIsTheCanonicalAttributeTextSpec : ChangeSpec := { name := "fnEscapeAttrIsTheCanonicalAttributeText", fn := fun _ => fun
  | [d1, d2] => { results := [.lit (.bool true)], args := [d1, d2] }
  | _ => none }
def fnEscapeAttrIsTheCanonicalAttributeTextRow : OpenClaim := { program := "qxb6608713a", sum := "ccb89afc44dcf121660658a3218a5ba13e27e41f75f257e4ad130d6f39b8012c", func := "example.com/waypost/waypost/zzlaws_internal_xmlread_b1.FnEscapeAttrIsTheCanonicalAttributeText", spec := "fnEscapeAttrIsTheCanonicalAttributeText", apart := false }
def FnEscapeAttrIsTheCanonicalAttributeTextSaid : Prop := fnEscapeAttrIsTheCanonicalAttributeTextRow.holds Try.pinned (OpenSpec.ofChange fnEscapeAttrIsTheCanonicalAttributeTextSpec)

/-- ITS FALSE NEIGHBOUR: 'it returns false'. Refute it at one input. -/
def fnEscapeAttrIsTheCanonicalAttributeTextWrong : ChangeSpec := { name := "fnEscapeAttrIsTheCanonicalAttributeText", fn := fun _ => fun
  | [d1, d2] => { results := [.lit (.bool false)], args := [d1, d2] }
  | _ => none }
def FnEscapeAttrIsTheCanonicalAttributeTextWrongFalsely : Prop := fnEscapeAttrIsTheCanonicalAttributeTextRow.holds Try.pinned (OpenSpec.ofChange fnEscapeAttrIsTheCanonicalAttributeTextWrong)

/-- 'zzlaws_internal_xmlread_b1.FnEscapeAttrOfJoinedIsEscapeOfParts': WHATEVER THE INPUT: true; the input reads as it did. -/
def fnEscapeAttrOfJoinedIsEscapeOfPartsSpec : ChangeSpec := { name := "fnEscapeAttrOfJoinedIsEscapeOfParts", fn := fun _ => fun
  | [d1, d2, d3] => { results := [.lit (.bool true)], args := [d1, d2, d3] }
  | _ => none }
def fnEscapeAttrOfJoinedIsEscapeOfPartsRow : OpenClaim := { program := "qxb6608713a", sum := "ccb89afc44dcf121660658a3218a5ba13e27e41f75f257e4ad130d6f39b8012c", func := "example.com/waypost/waypost/zzlaws_internal_xmlread_b1.FnEscapeAttrOfJoinedIsEscapeOfParts", spec := "fnEscapeAttrOfJoinedIsEscapeOfParts", apart := false }
def FnEscapeAttrOfJoinedIsEscapeOfPartsSaid : Prop := fnEscapeAttrOfJoinedIsEscapeOfPartsRow.holds Try.pinned (OpenSpec.ofChange fnEscapeAttrOfJoinedIsEscapeOfPartsSpec)

/-- ITS FALSE NEIGHBOUR: 'it returns false'. Refute it at one input. -/
def fnEscapeAttrOfJoinedIsEscapeOfPartsWrong : ChangeSpec := { name := "fnEscapeAttrOfJoinedIsEscapeOfParts", fn := fun _ => fun
  | [d1, d2, d3] => { results := [.lit (.bool false)], args := [d1, d2, d3] }
  | _ => none }
def FnEscapeAttrOfJoinedIsEscapeOfPartsWrongFalsely : Prop := fnEscapeAttrOfJoinedIsEscapeOfPartsRow.holds Try.pinned (OpenSpec.ofChange fnEscapeAttrOfJoinedIsEscapeOfPartsWrong)

/-- 'zzlaws_internal_xmlread_b1.FnSplitNameSwapsAroundOneColon': WHATEVER THE INPUT: true; the input reads as it did. -/
def fnSplitNameSwapsAroundOneColonSpec : ChangeSpec := { name := "fnSplitNameSwapsAroundOneColon", fn := fun _ => fun
  | [d1, d2] => { results := [.lit (.bool true)], args := [d1, d2] }
  | _ => none }
def fnSplitNameSwapsAroundOneColonRow : OpenClaim := { program := "qxb6608713a", sum := "ccb89afc44dcf121660658a3218a5ba13e27e41f75f257e4ad130d6f39b8012c", func := "example.com/waypost/waypost/zzlaws_internal_xmlread_b1.FnSplitNameSwapsAroundOneColon", spec := "fnSplitNameSwapsAroundOneColon", inPlace := ["internal/bytealg.IndexByteString", "internal/bytealg.IndexString"], named := ["internal/bytealg.MaxLen"], apart := false }
def FnSplitNameSwapsAroundOneColonSaid : Prop := fnSplitNameSwapsAroundOneColonRow.holds Try.pinned (OpenSpec.ofChange fnSplitNameSwapsAroundOneColonSpec)

/-- ITS FALSE NEIGHBOUR: 'it returns false'. Refute it at one input. -/
def fnSplitNameSwapsAroundOneColonWrong : ChangeSpec := { name := "fnSplitNameSwapsAroundOneColon", fn := fun _ => fun
  | [d1, d2] => { results := [.lit (.bool false)], args := [d1, d2] }
  | _ => none }
def FnSplitNameSwapsAroundOneColonWrongFalsely : Prop := fnSplitNameSwapsAroundOneColonRow.holds Try.pinned (OpenSpec.ofChange fnSplitNameSwapsAroundOneColonWrong)

/-- 'zzlaws_internal_xmlread_b1.FnSplitNamePartsRejoinAndStaySplit': WHATEVER THE INPUT: true; the input reads as it did. -/
def fnSplitNamePartsRejoinAndStaySplitSpec : ChangeSpec := { name := "fnSplitNamePartsRejoinAndStaySplit", fn := fun _ => fun
  | [d] => { results := [.lit (.bool true)], args := [d] }
  | _ => none }
def fnSplitNamePartsRejoinAndStaySplitRow : OpenClaim := { program := "qxb6608713a", sum := "ccb89afc44dcf121660658a3218a5ba13e27e41f75f257e4ad130d6f39b8012c", func := "example.com/waypost/waypost/zzlaws_internal_xmlread_b1.FnSplitNamePartsRejoinAndStaySplit", spec := "fnSplitNamePartsRejoinAndStaySplit", inPlace := ["internal/bytealg.IndexByteString", "internal/bytealg.IndexString"], named := ["internal/bytealg.MaxLen"], apart := false }
def FnSplitNamePartsRejoinAndStaySplitSaid : Prop := fnSplitNamePartsRejoinAndStaySplitRow.holds Try.pinned (OpenSpec.ofChange fnSplitNamePartsRejoinAndStaySplitSpec)

/-- ITS FALSE NEIGHBOUR: 'it returns false'. Refute it at one input. -/
def fnSplitNamePartsRejoinAndStaySplitWrong : ChangeSpec := { name := "fnSplitNamePartsRejoinAndStaySplit", fn := fun _ => fun
  | [d] => { results := [.lit (.bool false)], args := [d] }
  | _ => none }
def FnSplitNamePartsRejoinAndStaySplitWrongFalsely : Prop := fnSplitNamePartsRejoinAndStaySplitRow.holds Try.pinned (OpenSpec.ofChange fnSplitNamePartsRejoinAndStaySplitWrong)

end Rows
end Go.Proofs.Qxb6608713a
