import Derived.Test.Qxb6617073aTally
namespace Go.Proofs.Qxb6617073a
open Go.RowKit

set_option maxHeartbeats 1000000 in
theorem one_if (b : Nat) (g : Nat → Int) (size ent : Int) (c : Nat) (w : World) (R : Row w b g) (h1c : 1 ≤ c) (h10c : c ≤ 10) :
    Calls Try.prog 8 #[.pointer (some ⟨b, 0, none⟩), .int .i64 size, .int .u8 c, .int .i64 ent, .bool false] w fun e w' => e = .returned (.tuple #[]) ∧ Row w' b (step g size c ent false) ∧ But b w w' := by
  have hb := R.lt
  have hf := R.free
  have h0 := R.cell 0 (by omega)
  have h1 := R.cell 1 (by omega)
  have h12 := R.cell 12 (by omega)
  have h13 := R.cell 13 (by omega)
  have hc := R.cell (c + 1) (by omega)
  have RS := (((R.set (j := 0) (by omega) (g 0 + 1)).set (j := 1) (by omega) (g 1 + IntKind.u64.wrap size)).set (j := 12) (by omega) (g 12 + IntKind.u64.wrap ent)).set (j := c + 1) (by omega) (g (c + 1) + 1)
  have BS := ((((But.refl b w).set 0 (.int .u64 (IntKind.u64.wrap (g 0 + 1)))).set 1 (.int .u64 (IntKind.u64.wrap (g 1 + IntKind.u64.wrap size)))).set 12 (.int .u64 (IntKind.u64.wrap (g 12 + IntKind.u64.wrap ent)))).set (c + 1) (.int .u64 (IntKind.u64.wrap (g (c + 1) + 1)))
  have HR : Hid (Row _ b (step g size c ent false)) := RS.congr (fun j hj => step_in g size ent c (by omega) (by omega) R.ok j hj)
  have HB : Hid (But b w _) := BS
  clear R RS BS
  go_enter Try.func8, Try.ntmps8
  go_wp2
  go_region
  all_goals go_wp2
  go_region
  all_goals go_wp2
  go_region
  all_goals go_wp2
  go_region
  all_goals go_wp2
  go_end0
  exact ⟨rfl, HR.out.drew.drew.drew.drew, HB.out.drew.drew.drew.drew⟩

set_option maxHeartbeats 1000000 in
theorem one_0f (b : Nat) (g : Nat → Int) (size ent : Int) (w : World) (R : Row w b g) :
    Calls Try.prog 8 #[.pointer (some ⟨b, 0, none⟩), .int .i64 size, .int .u8 0, .int .i64 ent, .bool false] w fun e w' => e = .returned (.tuple #[]) ∧ Row w' b (step g size 0 ent false) ∧ But b w w' := by
  have hb := R.lt
  have hf := R.free
  have h0 := R.cell 0 (by omega)
  have h1 := R.cell 1 (by omega)
  have h12 := R.cell 12 (by omega)
  have h13 := R.cell 13 (by omega)
  have RS := ((R.set (j := 0) (by omega) (g 0 + 1)).set (j := 1) (by omega) (g 1 + IntKind.u64.wrap size)).set (j := 12) (by omega) (g 12 + IntKind.u64.wrap ent)
  have BS := (((But.refl b w).set 0 (.int .u64 (IntKind.u64.wrap (g 0 + 1)))).set 1 (.int .u64 (IntKind.u64.wrap (g 1 + IntKind.u64.wrap size)))).set 12 (.int .u64 (IntKind.u64.wrap (g 12 + IntKind.u64.wrap ent)))
  have HR : Hid (Row _ b (step g size 0 ent false)) := RS.congr (fun j hj => step_out g size ent 0 (.inl rfl) R.ok j hj)
  have HB : Hid (But b w _) := BS
  clear R RS BS
  go_enter Try.func8, Try.ntmps8
  go_wp2
  go_region
  all_goals go_wp2
  go_region
  all_goals go_wp2
  go_region
  all_goals go_wp2
  go_end0
  exact ⟨rfl, HR.out.drew.drew.drew, HB.out.drew.drew.drew⟩

set_option maxHeartbeats 1000000 in
theorem one_of (b : Nat) (g : Nat → Int) (size ent : Int) (c : Nat) (w : World) (R : Row w b g) (hc10 : (10 : Int) < (c : Int)) :
    Calls Try.prog 8 #[.pointer (some ⟨b, 0, none⟩), .int .i64 size, .int .u8 c, .int .i64 ent, .bool false] w fun e w' => e = .returned (.tuple #[]) ∧ Row w' b (step g size c ent false) ∧ But b w w' := by
  have hb := R.lt
  have hf := R.free
  have h0 := R.cell 0 (by omega)
  have h1 := R.cell 1 (by omega)
  have h12 := R.cell 12 (by omega)
  have h13 := R.cell 13 (by omega)
  have RS := ((R.set (j := 0) (by omega) (g 0 + 1)).set (j := 1) (by omega) (g 1 + IntKind.u64.wrap size)).set (j := 12) (by omega) (g 12 + IntKind.u64.wrap ent)
  have BS := (((But.refl b w).set 0 (.int .u64 (IntKind.u64.wrap (g 0 + 1)))).set 1 (.int .u64 (IntKind.u64.wrap (g 1 + IntKind.u64.wrap size)))).set 12 (.int .u64 (IntKind.u64.wrap (g 12 + IntKind.u64.wrap ent)))
  have HR : Hid (Row _ b (step g size c ent false)) := RS.congr (fun j hj => step_out g size ent c (.inr (by omega)) R.ok j hj)
  have HB : Hid (But b w _) := BS
  clear R RS BS
  go_enter Try.func8, Try.ntmps8
  go_wp2
  go_region
  all_goals go_wp2
  go_region
  all_goals go_wp2
  go_region
  all_goals go_wp2
  go_end0
  exact ⟨rfl, HR.out.drew.drew.drew, HB.out.drew.drew.drew⟩

set_option maxHeartbeats 1000000 in
theorem one_it (b : Nat) (g : Nat → Int) (size ent : Int) (c : Nat) (w : World) (R : Row w b g) (h1c : 1 ≤ c) (h10c : c ≤ 10) :
    Calls Try.prog 8 #[.pointer (some ⟨b, 0, none⟩), .int .i64 size, .int .u8 c, .int .i64 ent, .bool true] w fun e w' => e = .returned (.tuple #[]) ∧ Row w' b (step g size c ent true) ∧ But b w w' := by
  have hb := R.lt
  have hf := R.free
  have h0 := R.cell 0 (by omega)
  have h1 := R.cell 1 (by omega)
  have h12 := R.cell 12 (by omega)
  have h13 := R.cell 13 (by omega)
  have hc := R.cell (c + 1) (by omega)
  have RS := ((((R.set (j := 0) (by omega) (g 0 + 1)).set (j := 1) (by omega) (g 1 + IntKind.u64.wrap size)).set (j := 12) (by omega) (g 12 + IntKind.u64.wrap ent)).set (j := 13) (by omega) (g 13 + 1)).set (j := c + 1) (by omega) (g (c + 1) + 1)
  have BS := (((((But.refl b w).set 0 (.int .u64 (IntKind.u64.wrap (g 0 + 1)))).set 1 (.int .u64 (IntKind.u64.wrap (g 1 + IntKind.u64.wrap size)))).set 12 (.int .u64 (IntKind.u64.wrap (g 12 + IntKind.u64.wrap ent)))).set 13 (.int .u64 (IntKind.u64.wrap (g 13 + 1)))).set (c + 1) (.int .u64 (IntKind.u64.wrap (g (c + 1) + 1)))
  have HR : Hid (Row _ b (step g size c ent true)) := RS.congr (fun j hj => step_inT g size ent c (by omega) (by omega) R.ok j hj)
  have HB : Hid (But b w _) := BS
  clear R RS BS
  go_enter Try.func8, Try.ntmps8
  go_wp2
  go_region
  all_goals go_wp2
  go_region
  all_goals go_wp2
  go_region
  all_goals go_wp2
  go_region
  all_goals go_wp2
  go_region
  all_goals go_wp2
  go_end0
  exact ⟨rfl, HR.out.drew.drew.drew.drew.drew, HB.out.drew.drew.drew.drew.drew⟩

set_option maxHeartbeats 1000000 in
theorem one_0t (b : Nat) (g : Nat → Int) (size ent : Int) (w : World) (R : Row w b g) :
    Calls Try.prog 8 #[.pointer (some ⟨b, 0, none⟩), .int .i64 size, .int .u8 0, .int .i64 ent, .bool true] w fun e w' => e = .returned (.tuple #[]) ∧ Row w' b (step g size 0 ent true) ∧ But b w w' := by
  have hb := R.lt
  have hf := R.free
  have h0 := R.cell 0 (by omega)
  have h1 := R.cell 1 (by omega)
  have h12 := R.cell 12 (by omega)
  have h13 := R.cell 13 (by omega)
  have RS := (((R.set (j := 0) (by omega) (g 0 + 1)).set (j := 1) (by omega) (g 1 + IntKind.u64.wrap size)).set (j := 12) (by omega) (g 12 + IntKind.u64.wrap ent)).set (j := 13) (by omega) (g 13 + 1)
  have BS := ((((But.refl b w).set 0 (.int .u64 (IntKind.u64.wrap (g 0 + 1)))).set 1 (.int .u64 (IntKind.u64.wrap (g 1 + IntKind.u64.wrap size)))).set 12 (.int .u64 (IntKind.u64.wrap (g 12 + IntKind.u64.wrap ent)))).set 13 (.int .u64 (IntKind.u64.wrap (g 13 + 1)))
  have HR : Hid (Row _ b (step g size 0 ent true)) := RS.congr (fun j hj => step_outT g size ent 0 (.inl rfl) R.ok j hj)
  have HB : Hid (But b w _) := BS
  clear R RS BS
  go_enter Try.func8, Try.ntmps8
  go_wp2
  go_region
  all_goals go_wp2
  go_region
  all_goals go_wp2
  go_region
  all_goals go_wp2
  go_region
  all_goals go_wp2
  go_end0
  exact ⟨rfl, HR.out.drew.drew.drew.drew, HB.out.drew.drew.drew.drew⟩

set_option maxHeartbeats 1000000 in
theorem one_ot (b : Nat) (g : Nat → Int) (size ent : Int) (c : Nat) (w : World) (R : Row w b g) (hc10 : (10 : Int) < (c : Int)) :
    Calls Try.prog 8 #[.pointer (some ⟨b, 0, none⟩), .int .i64 size, .int .u8 c, .int .i64 ent, .bool true] w fun e w' => e = .returned (.tuple #[]) ∧ Row w' b (step g size c ent true) ∧ But b w w' := by
  have hb := R.lt
  have hf := R.free
  have h0 := R.cell 0 (by omega)
  have h1 := R.cell 1 (by omega)
  have h12 := R.cell 12 (by omega)
  have h13 := R.cell 13 (by omega)
  have RS := (((R.set (j := 0) (by omega) (g 0 + 1)).set (j := 1) (by omega) (g 1 + IntKind.u64.wrap size)).set (j := 12) (by omega) (g 12 + IntKind.u64.wrap ent)).set (j := 13) (by omega) (g 13 + 1)
  have BS := ((((But.refl b w).set 0 (.int .u64 (IntKind.u64.wrap (g 0 + 1)))).set 1 (.int .u64 (IntKind.u64.wrap (g 1 + IntKind.u64.wrap size)))).set 12 (.int .u64 (IntKind.u64.wrap (g 12 + IntKind.u64.wrap ent)))).set 13 (.int .u64 (IntKind.u64.wrap (g 13 + 1)))
  have HR : Hid (Row _ b (step g size c ent true)) := RS.congr (fun j hj => step_outT g size ent c (.inr (by omega)) R.ok j hj)
  have HB : Hid (But b w _) := BS
  clear R RS BS
  go_enter Try.func8, Try.ntmps8
  go_wp2
  go_region
  all_goals go_wp2
  go_region
  all_goals go_wp2
  go_region
  all_goals go_wp2
  go_region
  all_goals go_wp2
  go_end0
  exact ⟨rfl, HR.out.drew.drew.drew.drew, HB.out.drew.drew.drew.drew⟩

theorem one_any (b : Nat) (g : Nat → Int) (size ent : Int) (c : Nat) (tl : Bool) (w : World) (R : Row w b g) :
    Calls Try.prog 8 #[.pointer (some ⟨b, 0, none⟩), .int .i64 size, .int .u8 c, .int .i64 ent, .bool tl] w fun e w' => e = .returned (.tuple #[]) ∧ Row w' b (step g size c ent tl) ∧ But b w w' := by
  by_cases h : 10 < c
  · cases tl
    · exact one_of b g size ent c w R (by omega)
    · exact one_ot b g size ent c w R (by omega)
  by_cases h0 : c = 0
  · subst h0
    cases tl
    · exact one_0f b g size ent w R
    · exact one_0t b g size ent w R
  · cases tl
    · exact one_if b g size ent c w R (by omega) (by omega)
    · exact one_it b g size ent c w R (by omega) (by omega)
end Go.Proofs.Qxb6617073a
