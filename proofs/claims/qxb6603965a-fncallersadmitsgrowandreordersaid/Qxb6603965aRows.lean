/-
  No cell of these rows narrows 'for every input' (looked for: loops, veiled, ifaces, maps, wideKeys, modest, calm, conditions, laid).
  DERIVED. THE GIVEN ROWS OF THIS SEAT. 1 by the template 'for every input the law returns true; each argument reads behind the call as it read before'; 0 by the template 'total and deterministic' (their statements: Qxb6603965aTotals.lean).
  GIVEN WITH THE SEED: the statements are not yours to turn. If you find one false, say at which input.
  Laid BY PROGRAM, IN A SANDBOX (cutbox-rows.mjs): the forced cells as the released guide's own fill.sh prints them over the translation 9d9974c3c8a14da3… (all of the seat's roots in one cut). By AI agents, Wed Nov 11 2026. No macro, syntax, notation, axiom, sorry.
-/
import Derived.Test.Qxb6603965aChecked
import GoSem.Claim
import GoSem.ClaimJoined
import GoSem.ClaimMapViews
import Derived.JoinedTies
import Derived.KernelRfl
namespace Go.Proofs.Qxb6603965a
/- THE CELL 'sum', in the pinned program and in every row, IS THE sha256 OF THE DUMP (.gsa) THAT Qxb6603965aProg.lean LOADS. Nothing in Lean hashes anything: it is a label: what it is worth is what the hold of that sum in a sandbox is worth. -/
noncomputable def Try.pinned : Pinned := { name := "qxb6603965a", sum := "9d9974c3c8a14da3e56da42dfe7261cb733abf56265a5a4a719cc2897dca966c", checked := Try.checked }
namespace Rows
def none {H : Type} : Left H := { results := [], args := [] }

/-- 'zzlaws_pkg_settings_b1.FnCallersAdmitsGrowAndReorder': WHATEVER THE INPUT: true; the input reads as it did. -/
def fnCallersAdmitsGrowAndReorderSpec : ChangeSpec := { name := "fnCallersAdmitsGrowAndReorder", fn := fun _ => fun
  | [d1, d2, d3, d4, d5] => { results := [.lit (.bool true)], args := [d1, d2, d3, d4, d5] }
  | _ => none }
def fnCallersAdmitsGrowAndReorderRow : OpenClaim := { program := "qxb6603965a", sum := "9d9974c3c8a14da3e56da42dfe7261cb733abf56265a5a4a719cc2897dca966c", func := "example.com/pico-issuer/pico-issuer/zzlaws_pkg_settings_b1.FnCallersAdmitsGrowAndReorder", spec := "fnCallersAdmitsGrowAndReorder", apart := false }
def FnCallersAdmitsGrowAndReorderSaid : Prop := fnCallersAdmitsGrowAndReorderRow.holds Try.pinned (OpenSpec.ofChange fnCallersAdmitsGrowAndReorderSpec)

/-- ITS FALSE NEIGHBOUR: 'it returns false'. Refute it at one input. -/
def fnCallersAdmitsGrowAndReorderWrong : ChangeSpec := { name := "fnCallersAdmitsGrowAndReorder", fn := fun _ => fun
  | [d1, d2, d3, d4, d5] => { results := [.lit (.bool false)], args := [d1, d2, d3, d4, d5] }
  | _ => none }
def FnCallersAdmitsGrowAndReorderWrongFalsely : Prop := fnCallersAdmitsGrowAndReorderRow.holds Try.pinned (OpenSpec.ofChange fnCallersAdmitsGrowAndReorderWrong)

end Rows
end Go.Proofs.Qxb6603965a
