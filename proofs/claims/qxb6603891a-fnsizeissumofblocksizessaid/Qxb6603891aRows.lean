/-
  No cell of these rows narrows 'for every input' (looked for: loops, veiled, ifaces, maps, wideKeys, modest, calm, conditions, laid).
  DERIVED. THE GIVEN ROWS OF THIS SEAT. 3 by the template 'for every input the law returns true; each argument reads behind the call as it read before'; 0 by the template 'total and deterministic' (their statements: Qxb6603891aTotals.lean).
  GIVEN WITH THE SEED: the statements are not yours to turn. If you find one false, say at which input.
  Laid BY PROGRAM, IN A SANDBOX (cutbox-rows.mjs): the forced cells as the released guide's own fill.sh prints them over the translation 648d9899ad2ecd07… (all of the seat's roots in one cut). By AI agents, Wed Nov 11 2026. No macro, syntax, notation, axiom, sorry.
-/
import Derived.Test.Qxb6603891aChecked
import GoSem.Claim
import GoSem.ClaimJoined
import GoSem.ClaimMapViews
import Derived.JoinedTies
import Derived.KernelRfl
namespace Go.Proofs.Qxb6603891a
/- THE CELL 'sum', in the pinned program and in every row, IS THE sha256 OF THE DUMP (.gsa) THAT Qxb6603891aProg.lean LOADS. Nothing in Lean hashes anything: it is a label: what it is worth is what the hold of that sum in a sandbox is worth. -/
noncomputable def Try.pinned : Pinned := { name := "qxb6603891a", sum := "648d9899ad2ecd07e7c49d4182db546ea5b4a9e2897a87aa204f8c58dde36168", checked := Try.checked }
namespace Rows
def none {H : Type} : Left H := { results := [], args := [] }

/-- 'zzlaws_manifest_b1.FnBlockSizesAddUpToTheirEnd': WHATEVER THE INPUT: true; the input reads as it did. -/
def fnBlockSizesAddUpToTheirEndSpec : ChangeSpec := { name := "fnBlockSizesAddUpToTheirEnd", fn := fun _ => fun
  | [d1, d2] => { results := [.lit (.bool true)], args := [d1, d2] }
  | _ => none }
def fnBlockSizesAddUpToTheirEndRow : OpenClaim := { program := "qxb6603891a", sum := "648d9899ad2ecd07e7c49d4182db546ea5b4a9e2897a87aa204f8c58dde36168", func := "example.com/tessera/tessera/zzlaws_manifest_b1.FnBlockSizesAddUpToTheirEnd", spec := "fnBlockSizesAddUpToTheirEnd", apart := false }
def FnBlockSizesAddUpToTheirEndSaid : Prop := fnBlockSizesAddUpToTheirEndRow.holds Try.pinned (OpenSpec.ofChange fnBlockSizesAddUpToTheirEndSpec)

/-- ITS FALSE NEIGHBOUR: 'it returns false'. Refute it at one input. -/
def fnBlockSizesAddUpToTheirEndWrong : ChangeSpec := { name := "fnBlockSizesAddUpToTheirEnd", fn := fun _ => fun
  | [d1, d2] => { results := [.lit (.bool false)], args := [d1, d2] }
  | _ => none }
def FnBlockSizesAddUpToTheirEndWrongFalsely : Prop := fnBlockSizesAddUpToTheirEndRow.holds Try.pinned (OpenSpec.ofChange fnBlockSizesAddUpToTheirEndWrong)

/-- 'zzlaws_manifest_b1.FnSizeIsSumOfBlockSizes': WHATEVER THE INPUT: true; the input reads as it did. -/
def fnSizeIsSumOfBlockSizesSpec : ChangeSpec := { name := "fnSizeIsSumOfBlockSizes", fn := fun _ => fun
  | [d] => { results := [.lit (.bool true)], args := [d] }
  | _ => none }
def fnSizeIsSumOfBlockSizesRow : OpenClaim := { program := "qxb6603891a", sum := "648d9899ad2ecd07e7c49d4182db546ea5b4a9e2897a87aa204f8c58dde36168", func := "example.com/tessera/tessera/zzlaws_manifest_b1.FnSizeIsSumOfBlockSizes", spec := "fnSizeIsSumOfBlockSizes", apart := false }
def FnSizeIsSumOfBlockSizesSaid : Prop := fnSizeIsSumOfBlockSizesRow.holds Try.pinned (OpenSpec.ofChange fnSizeIsSumOfBlockSizesSpec)

/-- ITS FALSE NEIGHBOUR: 'it returns false'. Refute it at one input. -/
def fnSizeIsSumOfBlockSizesWrong : ChangeSpec := { name := "fnSizeIsSumOfBlockSizes", fn := fun _ => fun
  | [d] => { results := [.lit (.bool false)], args := [d] }
  | _ => none }
def FnSizeIsSumOfBlockSizesWrongFalsely : Prop := fnSizeIsSumOfBlockSizesRow.holds Try.pinned (OpenSpec.ofChange fnSizeIsSumOfBlockSizesWrong)

/-- 'zzlaws_manifest_b1.FnGivingABlockKeepsEarlierSizes': WHATEVER THE INPUT: true; the input reads as it did. -/
def fnGivingABlockKeepsEarlierSizesSpec : ChangeSpec := { name := "fnGivingABlockKeepsEarlierSizes", fn := fun _ => fun
  | [d1, d2] => { results := [.lit (.bool true)], args := [d1, d2] }
  | _ => none }
def fnGivingABlockKeepsEarlierSizesRow : OpenClaim := { program := "qxb6603891a", sum := "648d9899ad2ecd07e7c49d4182db546ea5b4a9e2897a87aa204f8c58dde36168", func := "example.com/tessera/tessera/zzlaws_manifest_b1.FnGivingABlockKeepsEarlierSizes", spec := "fnGivingABlockKeepsEarlierSizes", apart := false }
def FnGivingABlockKeepsEarlierSizesSaid : Prop := fnGivingABlockKeepsEarlierSizesRow.holds Try.pinned (OpenSpec.ofChange fnGivingABlockKeepsEarlierSizesSpec)

/-- ITS FALSE NEIGHBOUR: 'it returns false'. Refute it at one input. -/
def fnGivingABlockKeepsEarlierSizesWrong : ChangeSpec := { name := "fnGivingABlockKeepsEarlierSizes", fn := fun _ => fun
  | [d1, d2] => { results := [.lit (.bool false)], args := [d1, d2] }
  | _ => none }
def FnGivingABlockKeepsEarlierSizesWrongFalsely : Prop := fnGivingABlockKeepsEarlierSizesRow.holds Try.pinned (OpenSpec.ofChange fnGivingABlockKeepsEarlierSizesWrong)

end Rows
end Go.Proofs.Qxb6603891a
