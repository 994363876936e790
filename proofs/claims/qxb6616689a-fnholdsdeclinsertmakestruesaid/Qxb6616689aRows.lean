/-
  No cell of these rows narrows 'for every input' (looked for: loops, veiled, ifaces, maps, wideKeys, modest, calm, conditions, laid).
  DERIVED. THE GIVEN ROWS OF THIS SEAT. 4 by the template 'for every input the law returns true; each argument reads behind the call as it read before'; 0 by the template 'total and deterministic' (their statements: Qxb6616689aTotals.lean).
  GIVEN WITH THE SEED: the statements are not yours to turn. If you find one false, say at which input.
  Laid BY PROGRAM, IN A SANDBOX (cutbox-rows.mjs): the forced cells as the released guide's own fill.sh prints them over the translation e1aeab9a9044ec5e… (all of the seat's roots in one cut). By AI agents, Wed Nov 11 2026. No macro, syntax, notation, axiom, sorry.
-/
import Derived.Test.Qxb6616689aChecked
import GoSem.Claim
import GoSem.ClaimJoined
import GoSem.ClaimMapViews
import Derived.JoinedTies
import Derived.KernelRfl
namespace Go.Proofs.Qxb6616689a
/- THE CELL 'sum', in the pinned program and in every row, IS THE sha256 OF THE DUMP (.gsa) THAT Qxb6616689aProg.lean LOADS. Nothing in Lean hashes anything: it is a label: what it is worth is what the hold of that sum in a sandbox is worth. -/
noncomputable def Try.pinned : Pinned := { name := "qxb6616689a", sum := "e1aeab9a9044ec5ec522edc78c18ea0380fbaa0696a4cfebfe8d191c172a1875", checked := Try.checked }
namespace Rows
def none {H : Type} : Left H := { results := [], args := [] }

/-- 'zzlaws_internal_decl_b1.FnHoldsDeclCutAnywhere': WHATEVER THE INPUT: true; the input reads as it did. -/
def fnHoldsDeclCutAnywhereSpec : ChangeSpec := { name := "fnHoldsDeclCutAnywhere", fn := fun _ => fun
  | [d1, d2, d3, d4] => { results := [.lit (.bool true)], args := [d1, d2, d3, d4] }
  | _ => none }
def fnHoldsDeclCutAnywhereRow : OpenClaim := { program := "qxb6616689a", sum := "e1aeab9a9044ec5ec522edc78c18ea0380fbaa0696a4cfebfe8d191c172a1875", func := "example.com/nearcall/nearcall/zzlaws_internal_decl_b1.FnHoldsDeclCutAnywhere", spec := "fnHoldsDeclCutAnywhere", unfollowed := true, recurses := true, apart := false }
def FnHoldsDeclCutAnywhereSaid : Prop := fnHoldsDeclCutAnywhereRow.holds Try.pinned (OpenSpec.ofChange fnHoldsDeclCutAnywhereSpec)

/-- ITS FALSE NEIGHBOUR: 'it returns false'. Refute it at one input. -/
def fnHoldsDeclCutAnywhereWrong : ChangeSpec := { name := "fnHoldsDeclCutAnywhere", fn := fun _ => fun
  | [d1, d2, d3, d4] => { results := [.lit (.bool false)], args := [d1, d2, d3, d4] }
  | _ => none }
def FnHoldsDeclCutAnywhereWrongFalsely : Prop := fnHoldsDeclCutAnywhereRow.holds Try.pinned (OpenSpec.ofChange fnHoldsDeclCutAnywhereWrong)

/-- 'zzlaws_internal_decl_b1.FnHoldsDeclInsertMakesTrue': WHATEVER THE INPUT: true; the input reads as it did. -/
def fnHoldsDeclInsertMakesTrueSpec : ChangeSpec := { name := "fnHoldsDeclInsertMakesTrue", fn := fun _ => fun
  | [d1, d2, d3, d4, d5] => { results := [.lit (.bool true)], args := [d1, d2, d3, d4, d5] }
  | _ => none }
def fnHoldsDeclInsertMakesTrueRow : OpenClaim := { program := "qxb6616689a", sum := "e1aeab9a9044ec5ec522edc78c18ea0380fbaa0696a4cfebfe8d191c172a1875", func := "example.com/nearcall/nearcall/zzlaws_internal_decl_b1.FnHoldsDeclInsertMakesTrue", spec := "fnHoldsDeclInsertMakesTrue", unfollowed := true, recurses := true, apart := false }
def FnHoldsDeclInsertMakesTrueSaid : Prop := fnHoldsDeclInsertMakesTrueRow.holds Try.pinned (OpenSpec.ofChange fnHoldsDeclInsertMakesTrueSpec)

/-- ITS FALSE NEIGHBOUR: 'it returns false'. Refute it at one input. -/
def fnHoldsDeclInsertMakesTrueWrong : ChangeSpec := { name := "fnHoldsDeclInsertMakesTrue", fn := fun _ => fun
  | [d1, d2, d3, d4, d5] => { results := [.lit (.bool false)], args := [d1, d2, d3, d4, d5] }
  | _ => none }
def FnHoldsDeclInsertMakesTrueWrongFalsely : Prop := fnHoldsDeclInsertMakesTrueRow.holds Try.pinned (OpenSpec.ofChange fnHoldsDeclInsertMakesTrueWrong)

/-- 'zzlaws_internal_decl_b1.FnCFlagsEqualReplaceOne': WHATEVER THE INPUT: true; the input reads as it did. -/
def fnCFlagsEqualReplaceOneSpec : ChangeSpec := { name := "fnCFlagsEqualReplaceOne", fn := fun _ => fun
  | [d1, d2, d3, d4, d5, d6] => { results := [.lit (.bool true)], args := [d1, d2, d3, d4, d5, d6] }
  | _ => none }
def fnCFlagsEqualReplaceOneRow : OpenClaim := { program := "qxb6616689a", sum := "e1aeab9a9044ec5ec522edc78c18ea0380fbaa0696a4cfebfe8d191c172a1875", func := "example.com/nearcall/nearcall/zzlaws_internal_decl_b1.FnCFlagsEqualReplaceOne", spec := "fnCFlagsEqualReplaceOne", apart := false }
def FnCFlagsEqualReplaceOneSaid : Prop := fnCFlagsEqualReplaceOneRow.holds Try.pinned (OpenSpec.ofChange fnCFlagsEqualReplaceOneSpec)

/-- ITS FALSE NEIGHBOUR: 'it returns false'. Refute it at one input. -/
def fnCFlagsEqualReplaceOneWrong : ChangeSpec := { name := "fnCFlagsEqualReplaceOne", fn := fun _ => fun
  | [d1, d2, d3, d4, d5, d6] => { results := [.lit (.bool false)], args := [d1, d2, d3, d4, d5, d6] }
  | _ => none }
def FnCFlagsEqualReplaceOneWrongFalsely : Prop := fnCFlagsEqualReplaceOneRow.holds Try.pinned (OpenSpec.ofChange fnCFlagsEqualReplaceOneWrong)

/-- 'zzlaws_internal_decl_b1.FnCFlagsEqualFieldsKeptApart': WHATEVER THE INPUT: true; the input reads as it did. -/
def fnCFlagsEqualFieldsKeptApartSpec : ChangeSpec := { name := "fnCFlagsEqualFieldsKeptApart", fn := fun _ => fun
  | [d1, d2, d3] => { results := [.lit (.bool true)], args := [d1, d2, d3] }
  | _ => none }
def fnCFlagsEqualFieldsKeptApartRow : OpenClaim := { program := "qxb6616689a", sum := "e1aeab9a9044ec5ec522edc78c18ea0380fbaa0696a4cfebfe8d191c172a1875", func := "example.com/nearcall/nearcall/zzlaws_internal_decl_b1.FnCFlagsEqualFieldsKeptApart", spec := "fnCFlagsEqualFieldsKeptApart", apart := false }
def FnCFlagsEqualFieldsKeptApartSaid : Prop := fnCFlagsEqualFieldsKeptApartRow.holds Try.pinned (OpenSpec.ofChange fnCFlagsEqualFieldsKeptApartSpec)

/-- ITS FALSE NEIGHBOUR: 'it returns false'. Refute it at one input. -/
def fnCFlagsEqualFieldsKeptApartWrong : ChangeSpec := { name := "fnCFlagsEqualFieldsKeptApart", fn := fun _ => fun
  | [d1, d2, d3] => { results := [.lit (.bool false)], args := [d1, d2, d3] }
  | _ => none }
def FnCFlagsEqualFieldsKeptApartWrongFalsely : Prop := fnCFlagsEqualFieldsKeptApartRow.holds Try.pinned (OpenSpec.ofChange fnCFlagsEqualFieldsKeptApartWrong)

end Rows
end Go.Proofs.Qxb6616689a
