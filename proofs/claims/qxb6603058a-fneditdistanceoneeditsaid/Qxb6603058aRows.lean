/-
  No cell of these rows narrows 'for every input' (looked for: loops, veiled, ifaces, maps, wideKeys, modest, calm, conditions, laid).
  DERIVED. THE GIVEN ROWS OF THIS SEAT. 4 by the template 'for every input the law returns true; each argument reads behind the call as it read before'; 0 by the template 'total and deterministic' (their statements: Qxb6603058aTotals.lean).
  GIVEN WITH THE SEED: the statements are not yours to turn. If you find one false, say at which input.
  Laid BY PROGRAM, IN A SANDBOX (cutbox-rows.mjs): the forced cells as the released guide's own fill.sh prints them over the translation 97c9a40e2abb8063… (all of the seat's roots in one cut). By AI agents, Wed Nov 11 2026. No macro, syntax, notation, axiom, sorry.
-/
import Derived.Test.Qxb6603058aChecked
import GoSem.Claim
import GoSem.ClaimJoined
import GoSem.ClaimMapViews
import Derived.JoinedTies
import Derived.KernelRfl
namespace Go.Proofs.Qxb6603058a
/- THE CELL 'sum', in the pinned program and in every row, IS THE sha256 OF THE DUMP (.gsa) THAT Qxb6603058aProg.lean LOADS. Nothing in Lean hashes anything: it is a label: what it is worth is what the hold of that sum in a sandbox is worth. -/
noncomputable def Try.pinned : Pinned := { name := "qxb6603058a", sum := "97c9a40e2abb8063558bc822b5ef008493fcf58f99a161047dc98c4283786c23", checked := Try.checked }
namespace Rows
def none {H : Type} : Left H := { results := [], args := [] }

/-- 'zzlaws_root_b1.FnEditDistanceSymmetricReversal': WHATEVER THE INPUT: true; the input reads as it did. -/
def fnEditDistanceSymmetricReversalSpec : ChangeSpec := { name := "fnEditDistanceSymmetricReversal", fn := fun _ => fun
  | [d1, d2] => { results := [.lit (.bool true)], args := [d1, d2] }
  | _ => none }
def fnEditDistanceSymmetricReversalRow : OpenClaim := { program := "qxb6603058a", sum := "97c9a40e2abb8063558bc822b5ef008493fcf58f99a161047dc98c4283786c23", func := "example.com/lachesis/lachesis/zzlaws_root_b1.FnEditDistanceSymmetricReversal", spec := "fnEditDistanceSymmetricReversal", apart := false }
def FnEditDistanceSymmetricReversalSaid : Prop := fnEditDistanceSymmetricReversalRow.holds Try.pinned (OpenSpec.ofChange fnEditDistanceSymmetricReversalSpec)

/-- ITS FALSE NEIGHBOUR: 'it returns false'. Refute it at one input. -/
def fnEditDistanceSymmetricReversalWrong : ChangeSpec := { name := "fnEditDistanceSymmetricReversal", fn := fun _ => fun
  | [d1, d2] => { results := [.lit (.bool false)], args := [d1, d2] }
  | _ => none }
def FnEditDistanceSymmetricReversalWrongFalsely : Prop := fnEditDistanceSymmetricReversalRow.holds Try.pinned (OpenSpec.ofChange fnEditDistanceSymmetricReversalWrong)

/-- 'zzlaws_root_b1.FnEditDistanceBounds': WHATEVER THE INPUT: true; the input reads as it did. -/
def fnEditDistanceBoundsSpec : ChangeSpec := { name := "fnEditDistanceBounds", fn := fun _ => fun
  | [d1, d2] => { results := [.lit (.bool true)], args := [d1, d2] }
  | _ => none }
def fnEditDistanceBoundsRow : OpenClaim := { program := "qxb6603058a", sum := "97c9a40e2abb8063558bc822b5ef008493fcf58f99a161047dc98c4283786c23", func := "example.com/lachesis/lachesis/zzlaws_root_b1.FnEditDistanceBounds", spec := "fnEditDistanceBounds", apart := false }
def FnEditDistanceBoundsSaid : Prop := fnEditDistanceBoundsRow.holds Try.pinned (OpenSpec.ofChange fnEditDistanceBoundsSpec)

/-- ITS FALSE NEIGHBOUR: 'it returns false'. Refute it at one input. -/
def fnEditDistanceBoundsWrong : ChangeSpec := { name := "fnEditDistanceBounds", fn := fun _ => fun
  | [d1, d2] => { results := [.lit (.bool false)], args := [d1, d2] }
  | _ => none }
def FnEditDistanceBoundsWrongFalsely : Prop := fnEditDistanceBoundsRow.holds Try.pinned (OpenSpec.ofChange fnEditDistanceBoundsWrong)

/-- 'zzlaws_root_b1.FnEditDistanceOneEdit': WHATEVER THE INPUT: true; the input reads as it did. -/
def fnEditDistanceOneEditSpec : ChangeSpec := { name := "fnEditDistanceOneEdit", fn := fun _ => fun
  | [d1, d2, d3] => { results := [.lit (.bool true)], args := [d1, d2, d3] }
  | _ => none }
def fnEditDistanceOneEditRow : OpenClaim := { program := "qxb6603058a", sum := "97c9a40e2abb8063558bc822b5ef008493fcf58f99a161047dc98c4283786c23", func := "example.com/lachesis/lachesis/zzlaws_root_b1.FnEditDistanceOneEdit", spec := "fnEditDistanceOneEdit", apart := false }
def FnEditDistanceOneEditSaid : Prop := fnEditDistanceOneEditRow.holds Try.pinned (OpenSpec.ofChange fnEditDistanceOneEditSpec)

/-- ITS FALSE NEIGHBOUR: 'it returns false'. Refute it at one input. -/
def fnEditDistanceOneEditWrong : ChangeSpec := { name := "fnEditDistanceOneEdit", fn := fun _ => fun
  | [d1, d2, d3] => { results := [.lit (.bool false)], args := [d1, d2, d3] }
  | _ => none }
def FnEditDistanceOneEditWrongFalsely : Prop := fnEditDistanceOneEditRow.holds Try.pinned (OpenSpec.ofChange fnEditDistanceOneEditWrong)

/-- 'zzlaws_root_b1.FnLineBreakLocal': WHATEVER THE INPUT: true; the input reads as it did. -/
def fnLineBreakLocalSpec : ChangeSpec := { name := "fnLineBreakLocal", fn := fun _ => fun
  | [d] => { results := [.lit (.bool true)], args := [d] }
  | _ => none }
def fnLineBreakLocalRow : OpenClaim := { program := "qxb6603058a", sum := "97c9a40e2abb8063558bc822b5ef008493fcf58f99a161047dc98c4283786c23", func := "example.com/lachesis/lachesis/zzlaws_root_b1.FnLineBreakLocal", spec := "fnLineBreakLocal", apart := false }
def FnLineBreakLocalSaid : Prop := fnLineBreakLocalRow.holds Try.pinned (OpenSpec.ofChange fnLineBreakLocalSpec)

/-- ITS FALSE NEIGHBOUR: 'it returns false'. Refute it at one input. -/
def fnLineBreakLocalWrong : ChangeSpec := { name := "fnLineBreakLocal", fn := fun _ => fun
  | [d] => { results := [.lit (.bool false)], args := [d] }
  | _ => none }
def FnLineBreakLocalWrongFalsely : Prop := fnLineBreakLocalRow.holds Try.pinned (OpenSpec.ofChange fnLineBreakLocalWrong)

end Rows
end Go.Proofs.Qxb6603058a
