/-
  No cell of these rows narrows 'for every input' (looked for: loops, veiled, ifaces, maps, wideKeys, modest, calm, conditions, laid).
  DERIVED. THE GIVEN ROWS OF THIS SEAT. 2 by the template 'for every input the law returns true; each argument reads behind the call as it read before'; 0 by the template 'total and deterministic' (their statements: Qxb6617094aTotals.lean).
  GIVEN WITH THE SEED: the statements are not yours to turn. If you find one false, say at which input.
  Laid BY PROGRAM, IN A SANDBOX (cutbox-rows.mjs): the forced cells as the released guide's own fill.sh prints them over the translation 6fcf65383f2c03d5… (all of the seat's roots in one cut). By AI agents, Wed Nov 11 2026. No macro, syntax, notation, axiom, sorry.
-/
import Derived.Test.Qxb6617094aChecked
import GoSem.Claim
import GoSem.ClaimJoined
import GoSem.ClaimMapViews
import Derived.JoinedTies
import Derived.KernelRfl
namespace Go.Proofs.Qxb6617094a
/- THE CELL 'sum', in the pinned program and in every row, IS THE sha256 OF THE DUMP (.gsa) THAT Qxb6617094aProg.lean LOADS. Nothing in Lean hashes anything: it is a label: what it is worth is what the hold of that sum in a sandbox is worth. -/
noncomputable def Try.pinned : Pinned := { name := "qxb6617094a", sum := "6fcf65383f2c03d500b905c466d07ccaac98179785372a637ed8f0f1a26c5c5f", checked := Try.checked }
namespace Rows
def none {H : Type} : Left H := { results := [], args := [] }

/-- 'zzlaws_gcc_b1.FnStateAttributesRoundTripThroughBit': WHATEVER THE INPUT: true; the input reads as it did. -/
def fnStateAttributesRoundTripThroughBitSpec : ChangeSpec := { name := "fnStateAttributesRoundTripThroughBit", fn := fun _ => fun
  | [d1, d2] => { results := [.lit (.bool true)], args := [d1, d2] }
  | _ => none }
def fnStateAttributesRoundTripThroughBitRow : OpenClaim := { program := "qxb6617094a", sum := "6fcf65383f2c03d500b905c466d07ccaac98179785372a637ed8f0f1a26c5c5f", func := "example.com/crier/crier/zzlaws_gcc_b1.FnStateAttributesRoundTripThroughBit", spec := "fnStateAttributesRoundTripThroughBit", apart := false }
def FnStateAttributesRoundTripThroughBitSaid : Prop := fnStateAttributesRoundTripThroughBitRow.holds Try.pinned (OpenSpec.ofChange fnStateAttributesRoundTripThroughBitSpec)

/-- ITS FALSE NEIGHBOUR: 'it returns false'. Refute it at one input. -/
def fnStateAttributesRoundTripThroughBitWrong : ChangeSpec := { name := "fnStateAttributesRoundTripThroughBit", fn := fun _ => fun
  | [d1, d2] => { results := [.lit (.bool false)], args := [d1, d2] }
  | _ => none }
def FnStateAttributesRoundTripThroughBitWrongFalsely : Prop := fnStateAttributesRoundTripThroughBitRow.holds Try.pinned (OpenSpec.ofChange fnStateAttributesRoundTripThroughBitWrong)

/-- 'zzlaws_gcc_b1.FnStateAttributesRecoversEncodedFlags': WHATEVER THE INPUT: true; the input reads as it did. -/
def fnStateAttributesRecoversEncodedFlagsSpec : ChangeSpec := { name := "fnStateAttributesRecoversEncodedFlags", fn := fun _ => fun
  | [d1, d2, d3, d4, d5] => { results := [.lit (.bool true)], args := [d1, d2, d3, d4, d5] }
  | _ => none }
def fnStateAttributesRecoversEncodedFlagsRow : OpenClaim := { program := "qxb6617094a", sum := "6fcf65383f2c03d500b905c466d07ccaac98179785372a637ed8f0f1a26c5c5f", func := "example.com/crier/crier/zzlaws_gcc_b1.FnStateAttributesRecoversEncodedFlags", spec := "fnStateAttributesRecoversEncodedFlags", apart := false }
def FnStateAttributesRecoversEncodedFlagsSaid : Prop := fnStateAttributesRecoversEncodedFlagsRow.holds Try.pinned (OpenSpec.ofChange fnStateAttributesRecoversEncodedFlagsSpec)

/-- ITS FALSE NEIGHBOUR: 'it returns false'. Refute it at one input. -/
def fnStateAttributesRecoversEncodedFlagsWrong : ChangeSpec := { name := "fnStateAttributesRecoversEncodedFlags", fn := fun _ => fun
  | [d1, d2, d3, d4, d5] => { results := [.lit (.bool false)], args := [d1, d2, d3, d4, d5] }
  | _ => none }
def FnStateAttributesRecoversEncodedFlagsWrongFalsely : Prop := fnStateAttributesRecoversEncodedFlagsRow.holds Try.pinned (OpenSpec.ofChange fnStateAttributesRecoversEncodedFlagsWrong)

end Rows
end Go.Proofs.Qxb6617094a
