/-
  No cell of these rows narrows 'for every input' (looked for: loops, veiled, ifaces, maps, wideKeys, modest, calm, conditions, laid).
  DERIVED. THE GIVEN ROWS OF THIS SEAT. 2 by the template 'for every input the law returns true; each argument reads behind the call as it read before'; 0 by the template 'total and deterministic' (their statements: Qxb6602914aTotals.lean).
  GIVEN WITH THE SEED: the statements are not yours to turn. If you find one false, say at which input.
  Laid BY PROGRAM, IN A SANDBOX (cutbox-rows.mjs): the forced cells as the released guide's own fill.sh prints them over the translation 71b8fd0147967c9e… (all of the seat's roots in one cut). By AI agents, Wed Nov 11 2026. No macro, syntax, notation, axiom, sorry.
-/
import Derived.Test.Qxb6602914aChecked
import GoSem.Claim
import GoSem.ClaimJoined
import GoSem.ClaimMapViews
import Derived.JoinedTies
import Derived.KernelRfl
namespace Go.Proofs.Qxb6602914a
/- THE CELL 'sum', in the pinned program and in every row, IS THE sha256 OF THE DUMP (.gsa) THAT Qxb6602914aProg.lean LOADS. Nothing in Lean hashes anything: it is a label: what it is worth is what the hold of that sum in a sandbox is worth. -/
noncomputable def Try.pinned : Pinned := { name := "qxb6602914a", sum := "71b8fd0147967c9e348046d3ebe649baff5a25b53ae5c536bb367393c7b97448", checked := Try.checked }
namespace Rows
def none {H : Type} : Left H := { results := [], args := [] }

/-- 'zzlaws_root_b1.FnRotateMatchesBitModel': WHATEVER THE INPUT: true; the input reads as it did. -/
def fnRotateMatchesBitModelSpec : ChangeSpec := { name := "fnRotateMatchesBitModel", fn := fun _ => fun
  | [d1, d2, d3] => { results := [.lit (.bool true)], args := [d1, d2, d3] }
  | _ => none }
def fnRotateMatchesBitModelRow : OpenClaim := { program := "qxb6602914a", sum := "71b8fd0147967c9e348046d3ebe649baff5a25b53ae5c536bb367393c7b97448", func := "example.com/quintet/quintet/zzlaws_root_b1.FnRotateMatchesBitModel", spec := "fnRotateMatchesBitModel", apart := false }
def FnRotateMatchesBitModelSaid : Prop := fnRotateMatchesBitModelRow.holds Try.pinned (OpenSpec.ofChange fnRotateMatchesBitModelSpec)

/-- ITS FALSE NEIGHBOUR: 'it returns false'. Refute it at one input. -/
def fnRotateMatchesBitModelWrong : ChangeSpec := { name := "fnRotateMatchesBitModel", fn := fun _ => fun
  | [d1, d2, d3] => { results := [.lit (.bool false)], args := [d1, d2, d3] }
  | _ => none }
def FnRotateMatchesBitModelWrongFalsely : Prop := fnRotateMatchesBitModelRow.holds Try.pinned (OpenSpec.ofChange fnRotateMatchesBitModelWrong)

/-- 'zzlaws_root_b1.FnRotateComposesAndInverts': WHATEVER THE INPUT: true; the input reads as it did. -/
def fnRotateComposesAndInvertsSpec : ChangeSpec := { name := "fnRotateComposesAndInverts", fn := fun _ => fun
  | [d1, d2, d3, d4] => { results := [.lit (.bool true)], args := [d1, d2, d3, d4] }
  | _ => none }
def fnRotateComposesAndInvertsRow : OpenClaim := { program := "qxb6602914a", sum := "71b8fd0147967c9e348046d3ebe649baff5a25b53ae5c536bb367393c7b97448", func := "example.com/quintet/quintet/zzlaws_root_b1.FnRotateComposesAndInverts", spec := "fnRotateComposesAndInverts", apart := false }
def FnRotateComposesAndInvertsSaid : Prop := fnRotateComposesAndInvertsRow.holds Try.pinned (OpenSpec.ofChange fnRotateComposesAndInvertsSpec)

/-- ITS FALSE NEIGHBOUR: 'it returns false'. Refute it at one input. -/
def fnRotateComposesAndInvertsWrong : ChangeSpec := { name := "fnRotateComposesAndInverts", fn := fun _ => fun
  | [d1, d2, d3, d4] => { results := [.lit (.bool false)], args := [d1, d2, d3, d4] }
  | _ => none }
def FnRotateComposesAndInvertsWrongFalsely : Prop := fnRotateComposesAndInvertsRow.holds Try.pinned (OpenSpec.ofChange fnRotateComposesAndInvertsWrong)

end Rows
end Go.Proofs.Qxb6602914a
