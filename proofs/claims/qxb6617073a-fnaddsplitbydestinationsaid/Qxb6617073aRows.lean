/-
  No cell of these rows narrows 'for every input' (looked for: loops, veiled, ifaces, maps, wideKeys, modest, calm, conditions, laid).
  DERIVED. THE GIVEN ROWS OF THIS SEAT. 1 by the template 'for every input the law returns true; each argument reads behind the call as it read before'; 0 by the template 'total and deterministic' (their statements: Qxb6617073aTotals.lean).
  GIVEN WITH THE SEED: the statements are not yours to turn. If you find one false, say at which input.
  Laid BY PROGRAM, IN A SANDBOX (cutbox-rows.mjs): the forced cells as the released guide's own fill.sh prints them over the translation 7537cedc489dcdf5… (all of the seat's roots in one cut). By AI agents, Wed Nov 11 2026. No macro, syntax, notation, axiom, sorry.
-/
import Derived.Test.Qxb6617073aChecked
import GoSem.Claim
import GoSem.ClaimJoined
import GoSem.ClaimMapViews
import Derived.JoinedTies
import Derived.KernelRfl
namespace Go.Proofs.Qxb6617073a
/- THE CELL 'sum', in the pinned program and in every row, IS THE sha256 OF THE DUMP (.gsa) THAT Qxb6617073aProg.lean LOADS. Nothing in Lean hashes anything: it is a label: what it is worth is what the hold of that sum in a sandbox is worth. -/
noncomputable def Try.pinned : Pinned := { name := "qxb6617073a", sum := "7537cedc489dcdf5f2a6125bf13d265f9be22ed62e03b23af324e87ed5a8955d", checked := Try.checked }
namespace Rows
def none {H : Type} : Left H := { results := [], args := [] }

/-- 'zzlaws_memnet_b1.FnAddSplitByDestination': WHATEVER THE INPUT: true; the input reads as it did. -/
def fnAddSplitByDestinationSpec : ChangeSpec := { name := "fnAddSplitByDestination", fn := fun _ => fun
  | [d1, d2] => { results := [.lit (.bool true)], args := [d1, d2] }
  | _ => none }
def fnAddSplitByDestinationRow : OpenClaim := { program := "qxb6617073a", sum := "7537cedc489dcdf5f2a6125bf13d265f9be22ed62e03b23af324e87ed5a8955d", func := "example.com/quorumlog/quorumlog/zzlaws_memnet_b1.FnAddSplitByDestination", spec := "fnAddSplitByDestination", apart := false }
def FnAddSplitByDestinationSaid : Prop := fnAddSplitByDestinationRow.holds Try.pinned (OpenSpec.ofChange fnAddSplitByDestinationSpec)

/-- ITS FALSE NEIGHBOUR: 'it returns false'. Refute it at one input. -/
def fnAddSplitByDestinationWrong : ChangeSpec := { name := "fnAddSplitByDestination", fn := fun _ => fun
  | [d1, d2] => { results := [.lit (.bool false)], args := [d1, d2] }
  | _ => none }
def FnAddSplitByDestinationWrongFalsely : Prop := fnAddSplitByDestinationRow.holds Try.pinned (OpenSpec.ofChange fnAddSplitByDestinationWrong)

end Rows
end Go.Proofs.Qxb6617073a
