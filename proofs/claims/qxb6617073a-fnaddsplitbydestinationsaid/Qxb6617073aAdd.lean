import Derived.Test.Qxb6617073aTally
namespace Go.Proofs.Qxb6617073a
open Go.RowKit

set_option maxHeartbeats 400000 in
theorem add_1f (b : Nat) (g : Nat → Int) (size from_ ent : Int) (w : World) (R : Row w b g) :
    Calls Try.prog 10 #[.pointer (some ⟨b, 0, none⟩), .int .i64 size, .agg #[.int .u8 1, .int .u64 from_, .int .i64 ent], .bool false] w fun e w' => e = .returned (.tuple #[]) ∧ Row w' b (step g size 1 ent false) ∧ But b w w' := by
  have hb := R.lt
  have hf := R.free
  have h0 := R.cell 0 (by omega)
  have h1 := R.cell 1 (by omega)
  have h12 := R.cell 12 (by omega)
  have h13 := R.cell 13 (by omega)
  have hc := R.cell 2 (by omega)
  have RS := (((R.set (j := 0) (by omega) (g 0 + 1)).set (j := 1) (by omega) (g 1 + IntKind.u64.wrap size)).set (j := 12) (by omega) (g 12 + IntKind.u64.wrap ent)).set (j := 2) (by omega) (g 2 + 1)
  have BS := ((((But.refl b w).set 0 (.int .u64 (IntKind.u64.wrap (g 0 + 1)))).set 1 (.int .u64 (IntKind.u64.wrap (g 1 + IntKind.u64.wrap size)))).set 12 (.int .u64 (IntKind.u64.wrap (g 12 + IntKind.u64.wrap ent)))).set 2 (.int .u64 (IntKind.u64.wrap (g 2 + 1)))
  have HR : Hid (Row _ b (step g size 1 ent false)) := RS.congr (fun j hj => step_in g size ent 1 (by omega) (by omega) R.ok j hj)
  have HB : Hid (But b w _) := BS
  clear R RS BS
  go_enter Try.func10, Try.ntmps10
  go_wp2
  go_region
  all_goals go_wp2
  go_end0
  exact ⟨rfl, (HR.out.alloc _).drew, (HB.out.alloc _).drew⟩

set_option maxHeartbeats 400000 in
theorem add_1t (b : Nat) (g : Nat → Int) (size from_ ent : Int) (w : World) (R : Row w b g) :
    Calls Try.prog 10 #[.pointer (some ⟨b, 0, none⟩), .int .i64 size, .agg #[.int .u8 1, .int .u64 from_, .int .i64 ent], .bool true] w fun e w' => e = .returned (.tuple #[]) ∧ Row w' b (step g size 1 ent true) ∧ But b w w' := by
  have hb := R.lt
  have hf := R.free
  have h0 := R.cell 0 (by omega)
  have h1 := R.cell 1 (by omega)
  have h12 := R.cell 12 (by omega)
  have h13 := R.cell 13 (by omega)
  have hc := R.cell 2 (by omega)
  have RS := ((((R.set (j := 0) (by omega) (g 0 + 1)).set (j := 1) (by omega) (g 1 + IntKind.u64.wrap size)).set (j := 12) (by omega) (g 12 + IntKind.u64.wrap ent)).set (j := 13) (by omega) (g 13 + 1)).set (j := 2) (by omega) (g 2 + 1)
  have BS := (((((But.refl b w).set 0 (.int .u64 (IntKind.u64.wrap (g 0 + 1)))).set 1 (.int .u64 (IntKind.u64.wrap (g 1 + IntKind.u64.wrap size)))).set 12 (.int .u64 (IntKind.u64.wrap (g 12 + IntKind.u64.wrap ent)))).set 13 (.int .u64 (IntKind.u64.wrap (g 13 + 1)))).set 2 (.int .u64 (IntKind.u64.wrap (g 2 + 1)))
  have HR : Hid (Row _ b (step g size 1 ent true)) := RS.congr (fun j hj => step_inT g size ent 1 (by omega) (by omega) R.ok j hj)
  have HB : Hid (But b w _) := BS
  clear R RS BS
  go_enter Try.func10, Try.ntmps10
  go_wp2
  go_region
  all_goals go_wp2
  go_end0
  exact ⟨rfl, (HR.out.alloc _).drew, (HB.out.alloc _).drew⟩

set_option maxHeartbeats 400000 in
theorem add_2f (b : Nat) (g : Nat → Int) (size from_ ent : Int) (w : World) (R : Row w b g) :
    Calls Try.prog 10 #[.pointer (some ⟨b, 0, none⟩), .int .i64 size, .agg #[.int .u8 2, .int .u64 from_, .int .i64 ent], .bool false] w fun e w' => e = .returned (.tuple #[]) ∧ Row w' b (step g size 2 ent false) ∧ But b w w' := by
  have hb := R.lt
  have hf := R.free
  have h0 := R.cell 0 (by omega)
  have h1 := R.cell 1 (by omega)
  have h12 := R.cell 12 (by omega)
  have h13 := R.cell 13 (by omega)
  have hc := R.cell 3 (by omega)
  have RS := (((R.set (j := 0) (by omega) (g 0 + 1)).set (j := 1) (by omega) (g 1 + IntKind.u64.wrap size)).set (j := 12) (by omega) (g 12 + IntKind.u64.wrap ent)).set (j := 3) (by omega) (g 3 + 1)
  have BS := ((((But.refl b w).set 0 (.int .u64 (IntKind.u64.wrap (g 0 + 1)))).set 1 (.int .u64 (IntKind.u64.wrap (g 1 + IntKind.u64.wrap size)))).set 12 (.int .u64 (IntKind.u64.wrap (g 12 + IntKind.u64.wrap ent)))).set 3 (.int .u64 (IntKind.u64.wrap (g 3 + 1)))
  have HR : Hid (Row _ b (step g size 2 ent false)) := RS.congr (fun j hj => step_in g size ent 2 (by omega) (by omega) R.ok j hj)
  have HB : Hid (But b w _) := BS
  clear R RS BS
  go_enter Try.func10, Try.ntmps10
  go_wp2
  go_region
  all_goals go_wp2
  go_end0
  exact ⟨rfl, (HR.out.alloc _).drew, (HB.out.alloc _).drew⟩

set_option maxHeartbeats 400000 in
theorem add_2t (b : Nat) (g : Nat → Int) (size from_ ent : Int) (w : World) (R : Row w b g) :
    Calls Try.prog 10 #[.pointer (some ⟨b, 0, none⟩), .int .i64 size, .agg #[.int .u8 2, .int .u64 from_, .int .i64 ent], .bool true] w fun e w' => e = .returned (.tuple #[]) ∧ Row w' b (step g size 2 ent true) ∧ But b w w' := by
  have hb := R.lt
  have hf := R.free
  have h0 := R.cell 0 (by omega)
  have h1 := R.cell 1 (by omega)
  have h12 := R.cell 12 (by omega)
  have h13 := R.cell 13 (by omega)
  have hc := R.cell 3 (by omega)
  have RS := ((((R.set (j := 0) (by omega) (g 0 + 1)).set (j := 1) (by omega) (g 1 + IntKind.u64.wrap size)).set (j := 12) (by omega) (g 12 + IntKind.u64.wrap ent)).set (j := 13) (by omega) (g 13 + 1)).set (j := 3) (by omega) (g 3 + 1)
  have BS := (((((But.refl b w).set 0 (.int .u64 (IntKind.u64.wrap (g 0 + 1)))).set 1 (.int .u64 (IntKind.u64.wrap (g 1 + IntKind.u64.wrap size)))).set 12 (.int .u64 (IntKind.u64.wrap (g 12 + IntKind.u64.wrap ent)))).set 13 (.int .u64 (IntKind.u64.wrap (g 13 + 1)))).set 3 (.int .u64 (IntKind.u64.wrap (g 3 + 1)))
  have HR : Hid (Row _ b (step g size 2 ent true)) := RS.congr (fun j hj => step_inT g size ent 2 (by omega) (by omega) R.ok j hj)
  have HB : Hid (But b w _) := BS
  clear R RS BS
  go_enter Try.func10, Try.ntmps10
  go_wp2
  go_region
  all_goals go_wp2
  go_end0
  exact ⟨rfl, (HR.out.alloc _).drew, (HB.out.alloc _).drew⟩

set_option maxHeartbeats 400000 in
theorem add_3f (b : Nat) (g : Nat → Int) (size from_ ent : Int) (w : World) (R : Row w b g) :
    Calls Try.prog 10 #[.pointer (some ⟨b, 0, none⟩), .int .i64 size, .agg #[.int .u8 3, .int .u64 from_, .int .i64 ent], .bool false] w fun e w' => e = .returned (.tuple #[]) ∧ Row w' b (step g size 3 ent false) ∧ But b w w' := by
  have hb := R.lt
  have hf := R.free
  have h0 := R.cell 0 (by omega)
  have h1 := R.cell 1 (by omega)
  have h12 := R.cell 12 (by omega)
  have h13 := R.cell 13 (by omega)
  have hc := R.cell 4 (by omega)
  have RS := (((R.set (j := 0) (by omega) (g 0 + 1)).set (j := 1) (by omega) (g 1 + IntKind.u64.wrap size)).set (j := 12) (by omega) (g 12 + IntKind.u64.wrap ent)).set (j := 4) (by omega) (g 4 + 1)
  have BS := ((((But.refl b w).set 0 (.int .u64 (IntKind.u64.wrap (g 0 + 1)))).set 1 (.int .u64 (IntKind.u64.wrap (g 1 + IntKind.u64.wrap size)))).set 12 (.int .u64 (IntKind.u64.wrap (g 12 + IntKind.u64.wrap ent)))).set 4 (.int .u64 (IntKind.u64.wrap (g 4 + 1)))
  have HR : Hid (Row _ b (step g size 3 ent false)) := RS.congr (fun j hj => step_in g size ent 3 (by omega) (by omega) R.ok j hj)
  have HB : Hid (But b w _) := BS
  clear R RS BS
  go_enter Try.func10, Try.ntmps10
  go_wp2
  go_region
  all_goals go_wp2
  go_end0
  exact ⟨rfl, (HR.out.alloc _).drew, (HB.out.alloc _).drew⟩

set_option maxHeartbeats 400000 in
theorem add_3t (b : Nat) (g : Nat → Int) (size from_ ent : Int) (w : World) (R : Row w b g) :
    Calls Try.prog 10 #[.pointer (some ⟨b, 0, none⟩), .int .i64 size, .agg #[.int .u8 3, .int .u64 from_, .int .i64 ent], .bool true] w fun e w' => e = .returned (.tuple #[]) ∧ Row w' b (step g size 3 ent true) ∧ But b w w' := by
  have hb := R.lt
  have hf := R.free
  have h0 := R.cell 0 (by omega)
  have h1 := R.cell 1 (by omega)
  have h12 := R.cell 12 (by omega)
  have h13 := R.cell 13 (by omega)
  have hc := R.cell 4 (by omega)
  have RS := ((((R.set (j := 0) (by omega) (g 0 + 1)).set (j := 1) (by omega) (g 1 + IntKind.u64.wrap size)).set (j := 12) (by omega) (g 12 + IntKind.u64.wrap ent)).set (j := 13) (by omega) (g 13 + 1)).set (j := 4) (by omega) (g 4 + 1)
  have BS := (((((But.refl b w).set 0 (.int .u64 (IntKind.u64.wrap (g 0 + 1)))).set 1 (.int .u64 (IntKind.u64.wrap (g 1 + IntKind.u64.wrap size)))).set 12 (.int .u64 (IntKind.u64.wrap (g 12 + IntKind.u64.wrap ent)))).set 13 (.int .u64 (IntKind.u64.wrap (g 13 + 1)))).set 4 (.int .u64 (IntKind.u64.wrap (g 4 + 1)))
  have HR : Hid (Row _ b (step g size 3 ent true)) := RS.congr (fun j hj => step_inT g size ent 3 (by omega) (by omega) R.ok j hj)
  have HB : Hid (But b w _) := BS
  clear R RS BS
  go_enter Try.func10, Try.ntmps10
  go_wp2
  go_region
  all_goals go_wp2
  go_end0
  exact ⟨rfl, (HR.out.alloc _).drew, (HB.out.alloc _).drew⟩

set_option maxHeartbeats 400000 in
theorem add_4f (b : Nat) (g : Nat → Int) (size from_ ent : Int) (w : World) (R : Row w b g) :
    Calls Try.prog 10 #[.pointer (some ⟨b, 0, none⟩), .int .i64 size, .agg #[.int .u8 4, .int .u64 from_, .int .i64 ent], .bool false] w fun e w' => e = .returned (.tuple #[]) ∧ Row w' b (step g size 4 ent false) ∧ But b w w' := by
  have hb := R.lt
  have hf := R.free
  have h0 := R.cell 0 (by omega)
  have h1 := R.cell 1 (by omega)
  have h12 := R.cell 12 (by omega)
  have h13 := R.cell 13 (by omega)
  have hc := R.cell 5 (by omega)
  have RS := (((R.set (j := 0) (by omega) (g 0 + 1)).set (j := 1) (by omega) (g 1 + IntKind.u64.wrap size)).set (j := 12) (by omega) (g 12 + IntKind.u64.wrap ent)).set (j := 5) (by omega) (g 5 + 1)
  have BS := ((((But.refl b w).set 0 (.int .u64 (IntKind.u64.wrap (g 0 + 1)))).set 1 (.int .u64 (IntKind.u64.wrap (g 1 + IntKind.u64.wrap size)))).set 12 (.int .u64 (IntKind.u64.wrap (g 12 + IntKind.u64.wrap ent)))).set 5 (.int .u64 (IntKind.u64.wrap (g 5 + 1)))
  have HR : Hid (Row _ b (step g size 4 ent false)) := RS.congr (fun j hj => step_in g size ent 4 (by omega) (by omega) R.ok j hj)
  have HB : Hid (But b w _) := BS
  clear R RS BS
  go_enter Try.func10, Try.ntmps10
  go_wp2
  go_region
  all_goals go_wp2
  go_end0
  exact ⟨rfl, (HR.out.alloc _).drew, (HB.out.alloc _).drew⟩

set_option maxHeartbeats 400000 in
theorem add_4t (b : Nat) (g : Nat → Int) (size from_ ent : Int) (w : World) (R : Row w b g) :
    Calls Try.prog 10 #[.pointer (some ⟨b, 0, none⟩), .int .i64 size, .agg #[.int .u8 4, .int .u64 from_, .int .i64 ent], .bool true] w fun e w' => e = .returned (.tuple #[]) ∧ Row w' b (step g size 4 ent true) ∧ But b w w' := by
  have hb := R.lt
  have hf := R.free
  have h0 := R.cell 0 (by omega)
  have h1 := R.cell 1 (by omega)
  have h12 := R.cell 12 (by omega)
  have h13 := R.cell 13 (by omega)
  have hc := R.cell 5 (by omega)
  have RS := ((((R.set (j := 0) (by omega) (g 0 + 1)).set (j := 1) (by omega) (g 1 + IntKind.u64.wrap size)).set (j := 12) (by omega) (g 12 + IntKind.u64.wrap ent)).set (j := 13) (by omega) (g 13 + 1)).set (j := 5) (by omega) (g 5 + 1)
  have BS := (((((But.refl b w).set 0 (.int .u64 (IntKind.u64.wrap (g 0 + 1)))).set 1 (.int .u64 (IntKind.u64.wrap (g 1 + IntKind.u64.wrap size)))).set 12 (.int .u64 (IntKind.u64.wrap (g 12 + IntKind.u64.wrap ent)))).set 13 (.int .u64 (IntKind.u64.wrap (g 13 + 1)))).set 5 (.int .u64 (IntKind.u64.wrap (g 5 + 1)))
  have HR : Hid (Row _ b (step g size 4 ent true)) := RS.congr (fun j hj => step_inT g size ent 4 (by omega) (by omega) R.ok j hj)
  have HB : Hid (But b w _) := BS
  clear R RS BS
  go_enter Try.func10, Try.ntmps10
  go_wp2
  go_region
  all_goals go_wp2
  go_end0
  exact ⟨rfl, (HR.out.alloc _).drew, (HB.out.alloc _).drew⟩

set_option maxHeartbeats 400000 in
theorem add_5f (b : Nat) (g : Nat → Int) (size from_ ent : Int) (w : World) (R : Row w b g) :
    Calls Try.prog 10 #[.pointer (some ⟨b, 0, none⟩), .int .i64 size, .agg #[.int .u8 5, .int .u64 from_, .int .i64 ent], .bool false] w fun e w' => e = .returned (.tuple #[]) ∧ Row w' b (step g size 5 ent false) ∧ But b w w' := by
  have hb := R.lt
  have hf := R.free
  have h0 := R.cell 0 (by omega)
  have h1 := R.cell 1 (by omega)
  have h12 := R.cell 12 (by omega)
  have h13 := R.cell 13 (by omega)
  have hc := R.cell 6 (by omega)
  have RS := (((R.set (j := 0) (by omega) (g 0 + 1)).set (j := 1) (by omega) (g 1 + IntKind.u64.wrap size)).set (j := 12) (by omega) (g 12 + IntKind.u64.wrap ent)).set (j := 6) (by omega) (g 6 + 1)
  have BS := ((((But.refl b w).set 0 (.int .u64 (IntKind.u64.wrap (g 0 + 1)))).set 1 (.int .u64 (IntKind.u64.wrap (g 1 + IntKind.u64.wrap size)))).set 12 (.int .u64 (IntKind.u64.wrap (g 12 + IntKind.u64.wrap ent)))).set 6 (.int .u64 (IntKind.u64.wrap (g 6 + 1)))
  have HR : Hid (Row _ b (step g size 5 ent false)) := RS.congr (fun j hj => step_in g size ent 5 (by omega) (by omega) R.ok j hj)
  have HB : Hid (But b w _) := BS
  clear R RS BS
  go_enter Try.func10, Try.ntmps10
  go_wp2
  go_region
  all_goals go_wp2
  go_end0
  exact ⟨rfl, (HR.out.alloc _).drew, (HB.out.alloc _).drew⟩

set_option maxHeartbeats 400000 in
theorem add_5t (b : Nat) (g : Nat → Int) (size from_ ent : Int) (w : World) (R : Row w b g) :
    Calls Try.prog 10 #[.pointer (some ⟨b, 0, none⟩), .int .i64 size, .agg #[.int .u8 5, .int .u64 from_, .int .i64 ent], .bool true] w fun e w' => e = .returned (.tuple #[]) ∧ Row w' b (step g size 5 ent true) ∧ But b w w' := by
  have hb := R.lt
  have hf := R.free
  have h0 := R.cell 0 (by omega)
  have h1 := R.cell 1 (by omega)
  have h12 := R.cell 12 (by omega)
  have h13 := R.cell 13 (by omega)
  have hc := R.cell 6 (by omega)
  have RS := ((((R.set (j := 0) (by omega) (g 0 + 1)).set (j := 1) (by omega) (g 1 + IntKind.u64.wrap size)).set (j := 12) (by omega) (g 12 + IntKind.u64.wrap ent)).set (j := 13) (by omega) (g 13 + 1)).set (j := 6) (by omega) (g 6 + 1)
  have BS := (((((But.refl b w).set 0 (.int .u64 (IntKind.u64.wrap (g 0 + 1)))).set 1 (.int .u64 (IntKind.u64.wrap (g 1 + IntKind.u64.wrap size)))).set 12 (.int .u64 (IntKind.u64.wrap (g 12 + IntKind.u64.wrap ent)))).set 13 (.int .u64 (IntKind.u64.wrap (g 13 + 1)))).set 6 (.int .u64 (IntKind.u64.wrap (g 6 + 1)))
  have HR : Hid (Row _ b (step g size 5 ent true)) := RS.congr (fun j hj => step_inT g size ent 5 (by omega) (by omega) R.ok j hj)
  have HB : Hid (But b w _) := BS
  clear R RS BS
  go_enter Try.func10, Try.ntmps10
  go_wp2
  go_region
  all_goals go_wp2
  go_end0
  exact ⟨rfl, (HR.out.alloc _).drew, (HB.out.alloc _).drew⟩

set_option maxHeartbeats 400000 in
theorem add_6f (b : Nat) (g : Nat → Int) (size from_ ent : Int) (w : World) (R : Row w b g) :
    Calls Try.prog 10 #[.pointer (some ⟨b, 0, none⟩), .int .i64 size, .agg #[.int .u8 6, .int .u64 from_, .int .i64 ent], .bool false] w fun e w' => e = .returned (.tuple #[]) ∧ Row w' b (step g size 6 ent false) ∧ But b w w' := by
  have hb := R.lt
  have hf := R.free
  have h0 := R.cell 0 (by omega)
  have h1 := R.cell 1 (by omega)
  have h12 := R.cell 12 (by omega)
  have h13 := R.cell 13 (by omega)
  have hc := R.cell 7 (by omega)
  have RS := (((R.set (j := 0) (by omega) (g 0 + 1)).set (j := 1) (by omega) (g 1 + IntKind.u64.wrap size)).set (j := 12) (by omega) (g 12 + IntKind.u64.wrap ent)).set (j := 7) (by omega) (g 7 + 1)
  have BS := ((((But.refl b w).set 0 (.int .u64 (IntKind.u64.wrap (g 0 + 1)))).set 1 (.int .u64 (IntKind.u64.wrap (g 1 + IntKind.u64.wrap size)))).set 12 (.int .u64 (IntKind.u64.wrap (g 12 + IntKind.u64.wrap ent)))).set 7 (.int .u64 (IntKind.u64.wrap (g 7 + 1)))
  have HR : Hid (Row _ b (step g size 6 ent false)) := RS.congr (fun j hj => step_in g size ent 6 (by omega) (by omega) R.ok j hj)
  have HB : Hid (But b w _) := BS
  clear R RS BS
  go_enter Try.func10, Try.ntmps10
  go_wp2
  go_region
  all_goals go_wp2
  go_end0
  exact ⟨rfl, (HR.out.alloc _).drew, (HB.out.alloc _).drew⟩

set_option maxHeartbeats 400000 in
theorem add_6t (b : Nat) (g : Nat → Int) (size from_ ent : Int) (w : World) (R : Row w b g) :
    Calls Try.prog 10 #[.pointer (some ⟨b, 0, none⟩), .int .i64 size, .agg #[.int .u8 6, .int .u64 from_, .int .i64 ent], .bool true] w fun e w' => e = .returned (.tuple #[]) ∧ Row w' b (step g size 6 ent true) ∧ But b w w' := by
  have hb := R.lt
  have hf := R.free
  have h0 := R.cell 0 (by omega)
  have h1 := R.cell 1 (by omega)
  have h12 := R.cell 12 (by omega)
  have h13 := R.cell 13 (by omega)
  have hc := R.cell 7 (by omega)
  have RS := ((((R.set (j := 0) (by omega) (g 0 + 1)).set (j := 1) (by omega) (g 1 + IntKind.u64.wrap size)).set (j := 12) (by omega) (g 12 + IntKind.u64.wrap ent)).set (j := 13) (by omega) (g 13 + 1)).set (j := 7) (by omega) (g 7 + 1)
  have BS := (((((But.refl b w).set 0 (.int .u64 (IntKind.u64.wrap (g 0 + 1)))).set 1 (.int .u64 (IntKind.u64.wrap (g 1 + IntKind.u64.wrap size)))).set 12 (.int .u64 (IntKind.u64.wrap (g 12 + IntKind.u64.wrap ent)))).set 13 (.int .u64 (IntKind.u64.wrap (g 13 + 1)))).set 7 (.int .u64 (IntKind.u64.wrap (g 7 + 1)))
  have HR : Hid (Row _ b (step g size 6 ent true)) := RS.congr (fun j hj => step_inT g size ent 6 (by omega) (by omega) R.ok j hj)
  have HB : Hid (But b w _) := BS
  clear R RS BS
  go_enter Try.func10, Try.ntmps10
  go_wp2
  go_region
  all_goals go_wp2
  go_end0
  exact ⟨rfl, (HR.out.alloc _).drew, (HB.out.alloc _).drew⟩

set_option maxHeartbeats 400000 in
theorem add_7f (b : Nat) (g : Nat → Int) (size from_ ent : Int) (w : World) (R : Row w b g) :
    Calls Try.prog 10 #[.pointer (some ⟨b, 0, none⟩), .int .i64 size, .agg #[.int .u8 7, .int .u64 from_, .int .i64 ent], .bool false] w fun e w' => e = .returned (.tuple #[]) ∧ Row w' b (step g size 7 ent false) ∧ But b w w' := by
  have hb := R.lt
  have hf := R.free
  have h0 := R.cell 0 (by omega)
  have h1 := R.cell 1 (by omega)
  have h12 := R.cell 12 (by omega)
  have h13 := R.cell 13 (by omega)
  have hc := R.cell 8 (by omega)
  have RS := (((R.set (j := 0) (by omega) (g 0 + 1)).set (j := 1) (by omega) (g 1 + IntKind.u64.wrap size)).set (j := 12) (by omega) (g 12 + IntKind.u64.wrap ent)).set (j := 8) (by omega) (g 8 + 1)
  have BS := ((((But.refl b w).set 0 (.int .u64 (IntKind.u64.wrap (g 0 + 1)))).set 1 (.int .u64 (IntKind.u64.wrap (g 1 + IntKind.u64.wrap size)))).set 12 (.int .u64 (IntKind.u64.wrap (g 12 + IntKind.u64.wrap ent)))).set 8 (.int .u64 (IntKind.u64.wrap (g 8 + 1)))
  have HR : Hid (Row _ b (step g size 7 ent false)) := RS.congr (fun j hj => step_in g size ent 7 (by omega) (by omega) R.ok j hj)
  have HB : Hid (But b w _) := BS
  clear R RS BS
  go_enter Try.func10, Try.ntmps10
  go_wp2
  go_region
  all_goals go_wp2
  go_end0
  exact ⟨rfl, (HR.out.alloc _).drew, (HB.out.alloc _).drew⟩

set_option maxHeartbeats 400000 in
theorem add_7t (b : Nat) (g : Nat → Int) (size from_ ent : Int) (w : World) (R : Row w b g) :
    Calls Try.prog 10 #[.pointer (some ⟨b, 0, none⟩), .int .i64 size, .agg #[.int .u8 7, .int .u64 from_, .int .i64 ent], .bool true] w fun e w' => e = .returned (.tuple #[]) ∧ Row w' b (step g size 7 ent true) ∧ But b w w' := by
  have hb := R.lt
  have hf := R.free
  have h0 := R.cell 0 (by omega)
  have h1 := R.cell 1 (by omega)
  have h12 := R.cell 12 (by omega)
  have h13 := R.cell 13 (by omega)
  have hc := R.cell 8 (by omega)
  have RS := ((((R.set (j := 0) (by omega) (g 0 + 1)).set (j := 1) (by omega) (g 1 + IntKind.u64.wrap size)).set (j := 12) (by omega) (g 12 + IntKind.u64.wrap ent)).set (j := 13) (by omega) (g 13 + 1)).set (j := 8) (by omega) (g 8 + 1)
  have BS := (((((But.refl b w).set 0 (.int .u64 (IntKind.u64.wrap (g 0 + 1)))).set 1 (.int .u64 (IntKind.u64.wrap (g 1 + IntKind.u64.wrap size)))).set 12 (.int .u64 (IntKind.u64.wrap (g 12 + IntKind.u64.wrap ent)))).set 13 (.int .u64 (IntKind.u64.wrap (g 13 + 1)))).set 8 (.int .u64 (IntKind.u64.wrap (g 8 + 1)))
  have HR : Hid (Row _ b (step g size 7 ent true)) := RS.congr (fun j hj => step_inT g size ent 7 (by omega) (by omega) R.ok j hj)
  have HB : Hid (But b w _) := BS
  clear R RS BS
  go_enter Try.func10, Try.ntmps10
  go_wp2
  go_region
  all_goals go_wp2
  go_end0
  exact ⟨rfl, (HR.out.alloc _).drew, (HB.out.alloc _).drew⟩

set_option maxHeartbeats 400000 in
theorem add_8f (b : Nat) (g : Nat → Int) (size from_ ent : Int) (w : World) (R : Row w b g) :
    Calls Try.prog 10 #[.pointer (some ⟨b, 0, none⟩), .int .i64 size, .agg #[.int .u8 8, .int .u64 from_, .int .i64 ent], .bool false] w fun e w' => e = .returned (.tuple #[]) ∧ Row w' b (step g size 8 ent false) ∧ But b w w' := by
  have hb := R.lt
  have hf := R.free
  have h0 := R.cell 0 (by omega)
  have h1 := R.cell 1 (by omega)
  have h12 := R.cell 12 (by omega)
  have h13 := R.cell 13 (by omega)
  have hc := R.cell 9 (by omega)
  have RS := (((R.set (j := 0) (by omega) (g 0 + 1)).set (j := 1) (by omega) (g 1 + IntKind.u64.wrap size)).set (j := 12) (by omega) (g 12 + IntKind.u64.wrap ent)).set (j := 9) (by omega) (g 9 + 1)
  have BS := ((((But.refl b w).set 0 (.int .u64 (IntKind.u64.wrap (g 0 + 1)))).set 1 (.int .u64 (IntKind.u64.wrap (g 1 + IntKind.u64.wrap size)))).set 12 (.int .u64 (IntKind.u64.wrap (g 12 + IntKind.u64.wrap ent)))).set 9 (.int .u64 (IntKind.u64.wrap (g 9 + 1)))
  have HR : Hid (Row _ b (step g size 8 ent false)) := RS.congr (fun j hj => step_in g size ent 8 (by omega) (by omega) R.ok j hj)
  have HB : Hid (But b w _) := BS
  clear R RS BS
  go_enter Try.func10, Try.ntmps10
  go_wp2
  go_region
  all_goals go_wp2
  go_end0
  exact ⟨rfl, (HR.out.alloc _).drew, (HB.out.alloc _).drew⟩

set_option maxHeartbeats 400000 in
theorem add_8t (b : Nat) (g : Nat → Int) (size from_ ent : Int) (w : World) (R : Row w b g) :
    Calls Try.prog 10 #[.pointer (some ⟨b, 0, none⟩), .int .i64 size, .agg #[.int .u8 8, .int .u64 from_, .int .i64 ent], .bool true] w fun e w' => e = .returned (.tuple #[]) ∧ Row w' b (step g size 8 ent true) ∧ But b w w' := by
  have hb := R.lt
  have hf := R.free
  have h0 := R.cell 0 (by omega)
  have h1 := R.cell 1 (by omega)
  have h12 := R.cell 12 (by omega)
  have h13 := R.cell 13 (by omega)
  have hc := R.cell 9 (by omega)
  have RS := ((((R.set (j := 0) (by omega) (g 0 + 1)).set (j := 1) (by omega) (g 1 + IntKind.u64.wrap size)).set (j := 12) (by omega) (g 12 + IntKind.u64.wrap ent)).set (j := 13) (by omega) (g 13 + 1)).set (j := 9) (by omega) (g 9 + 1)
  have BS := (((((But.refl b w).set 0 (.int .u64 (IntKind.u64.wrap (g 0 + 1)))).set 1 (.int .u64 (IntKind.u64.wrap (g 1 + IntKind.u64.wrap size)))).set 12 (.int .u64 (IntKind.u64.wrap (g 12 + IntKind.u64.wrap ent)))).set 13 (.int .u64 (IntKind.u64.wrap (g 13 + 1)))).set 9 (.int .u64 (IntKind.u64.wrap (g 9 + 1)))
  have HR : Hid (Row _ b (step g size 8 ent true)) := RS.congr (fun j hj => step_inT g size ent 8 (by omega) (by omega) R.ok j hj)
  have HB : Hid (But b w _) := BS
  clear R RS BS
  go_enter Try.func10, Try.ntmps10
  go_wp2
  go_region
  all_goals go_wp2
  go_end0
  exact ⟨rfl, (HR.out.alloc _).drew, (HB.out.alloc _).drew⟩

set_option maxHeartbeats 400000 in
theorem add_9f (b : Nat) (g : Nat → Int) (size from_ ent : Int) (w : World) (R : Row w b g) :
    Calls Try.prog 10 #[.pointer (some ⟨b, 0, none⟩), .int .i64 size, .agg #[.int .u8 9, .int .u64 from_, .int .i64 ent], .bool false] w fun e w' => e = .returned (.tuple #[]) ∧ Row w' b (step g size 9 ent false) ∧ But b w w' := by
  have hb := R.lt
  have hf := R.free
  have h0 := R.cell 0 (by omega)
  have h1 := R.cell 1 (by omega)
  have h12 := R.cell 12 (by omega)
  have h13 := R.cell 13 (by omega)
  have hc := R.cell 10 (by omega)
  have RS := (((R.set (j := 0) (by omega) (g 0 + 1)).set (j := 1) (by omega) (g 1 + IntKind.u64.wrap size)).set (j := 12) (by omega) (g 12 + IntKind.u64.wrap ent)).set (j := 10) (by omega) (g 10 + 1)
  have BS := ((((But.refl b w).set 0 (.int .u64 (IntKind.u64.wrap (g 0 + 1)))).set 1 (.int .u64 (IntKind.u64.wrap (g 1 + IntKind.u64.wrap size)))).set 12 (.int .u64 (IntKind.u64.wrap (g 12 + IntKind.u64.wrap ent)))).set 10 (.int .u64 (IntKind.u64.wrap (g 10 + 1)))
  have HR : Hid (Row _ b (step g size 9 ent false)) := RS.congr (fun j hj => step_in g size ent 9 (by omega) (by omega) R.ok j hj)
  have HB : Hid (But b w _) := BS
  clear R RS BS
  go_enter Try.func10, Try.ntmps10
  go_wp2
  go_region
  all_goals go_wp2
  go_end0
  exact ⟨rfl, (HR.out.alloc _).drew, (HB.out.alloc _).drew⟩

set_option maxHeartbeats 400000 in
theorem add_9t (b : Nat) (g : Nat → Int) (size from_ ent : Int) (w : World) (R : Row w b g) :
    Calls Try.prog 10 #[.pointer (some ⟨b, 0, none⟩), .int .i64 size, .agg #[.int .u8 9, .int .u64 from_, .int .i64 ent], .bool true] w fun e w' => e = .returned (.tuple #[]) ∧ Row w' b (step g size 9 ent true) ∧ But b w w' := by
  have hb := R.lt
  have hf := R.free
  have h0 := R.cell 0 (by omega)
  have h1 := R.cell 1 (by omega)
  have h12 := R.cell 12 (by omega)
  have h13 := R.cell 13 (by omega)
  have hc := R.cell 10 (by omega)
  have RS := ((((R.set (j := 0) (by omega) (g 0 + 1)).set (j := 1) (by omega) (g 1 + IntKind.u64.wrap size)).set (j := 12) (by omega) (g 12 + IntKind.u64.wrap ent)).set (j := 13) (by omega) (g 13 + 1)).set (j := 10) (by omega) (g 10 + 1)
  have BS := (((((But.refl b w).set 0 (.int .u64 (IntKind.u64.wrap (g 0 + 1)))).set 1 (.int .u64 (IntKind.u64.wrap (g 1 + IntKind.u64.wrap size)))).set 12 (.int .u64 (IntKind.u64.wrap (g 12 + IntKind.u64.wrap ent)))).set 13 (.int .u64 (IntKind.u64.wrap (g 13 + 1)))).set 10 (.int .u64 (IntKind.u64.wrap (g 10 + 1)))
  have HR : Hid (Row _ b (step g size 9 ent true)) := RS.congr (fun j hj => step_inT g size ent 9 (by omega) (by omega) R.ok j hj)
  have HB : Hid (But b w _) := BS
  clear R RS BS
  go_enter Try.func10, Try.ntmps10
  go_wp2
  go_region
  all_goals go_wp2
  go_end0
  exact ⟨rfl, (HR.out.alloc _).drew, (HB.out.alloc _).drew⟩

set_option maxHeartbeats 400000 in
theorem add_10f (b : Nat) (g : Nat → Int) (size from_ ent : Int) (w : World) (R : Row w b g) :
    Calls Try.prog 10 #[.pointer (some ⟨b, 0, none⟩), .int .i64 size, .agg #[.int .u8 10, .int .u64 from_, .int .i64 ent], .bool false] w fun e w' => e = .returned (.tuple #[]) ∧ Row w' b (step g size 10 ent false) ∧ But b w w' := by
  have hb := R.lt
  have hf := R.free
  have h0 := R.cell 0 (by omega)
  have h1 := R.cell 1 (by omega)
  have h12 := R.cell 12 (by omega)
  have h13 := R.cell 13 (by omega)
  have hc := R.cell 11 (by omega)
  have RS := (((R.set (j := 0) (by omega) (g 0 + 1)).set (j := 1) (by omega) (g 1 + IntKind.u64.wrap size)).set (j := 12) (by omega) (g 12 + IntKind.u64.wrap ent)).set (j := 11) (by omega) (g 11 + 1)
  have BS := ((((But.refl b w).set 0 (.int .u64 (IntKind.u64.wrap (g 0 + 1)))).set 1 (.int .u64 (IntKind.u64.wrap (g 1 + IntKind.u64.wrap size)))).set 12 (.int .u64 (IntKind.u64.wrap (g 12 + IntKind.u64.wrap ent)))).set 11 (.int .u64 (IntKind.u64.wrap (g 11 + 1)))
  have HR : Hid (Row _ b (step g size 10 ent false)) := RS.congr (fun j hj => step_in g size ent 10 (by omega) (by omega) R.ok j hj)
  have HB : Hid (But b w _) := BS
  clear R RS BS
  go_enter Try.func10, Try.ntmps10
  go_wp2
  go_region
  all_goals go_wp2
  go_end0
  exact ⟨rfl, (HR.out.alloc _).drew, (HB.out.alloc _).drew⟩

set_option maxHeartbeats 400000 in
theorem add_10t (b : Nat) (g : Nat → Int) (size from_ ent : Int) (w : World) (R : Row w b g) :
    Calls Try.prog 10 #[.pointer (some ⟨b, 0, none⟩), .int .i64 size, .agg #[.int .u8 10, .int .u64 from_, .int .i64 ent], .bool true] w fun e w' => e = .returned (.tuple #[]) ∧ Row w' b (step g size 10 ent true) ∧ But b w w' := by
  have hb := R.lt
  have hf := R.free
  have h0 := R.cell 0 (by omega)
  have h1 := R.cell 1 (by omega)
  have h12 := R.cell 12 (by omega)
  have h13 := R.cell 13 (by omega)
  have hc := R.cell 11 (by omega)
  have RS := ((((R.set (j := 0) (by omega) (g 0 + 1)).set (j := 1) (by omega) (g 1 + IntKind.u64.wrap size)).set (j := 12) (by omega) (g 12 + IntKind.u64.wrap ent)).set (j := 13) (by omega) (g 13 + 1)).set (j := 11) (by omega) (g 11 + 1)
  have BS := (((((But.refl b w).set 0 (.int .u64 (IntKind.u64.wrap (g 0 + 1)))).set 1 (.int .u64 (IntKind.u64.wrap (g 1 + IntKind.u64.wrap size)))).set 12 (.int .u64 (IntKind.u64.wrap (g 12 + IntKind.u64.wrap ent)))).set 13 (.int .u64 (IntKind.u64.wrap (g 13 + 1)))).set 11 (.int .u64 (IntKind.u64.wrap (g 11 + 1)))
  have HR : Hid (Row _ b (step g size 10 ent true)) := RS.congr (fun j hj => step_inT g size ent 10 (by omega) (by omega) R.ok j hj)
  have HB : Hid (But b w _) := BS
  clear R RS BS
  go_enter Try.func10, Try.ntmps10
  go_wp2
  go_region
  all_goals go_wp2
  go_end0
  exact ⟨rfl, (HR.out.alloc _).drew, (HB.out.alloc _).drew⟩

set_option maxHeartbeats 400000 in
theorem add_0f (b : Nat) (g : Nat → Int) (size from_ ent : Int) (w : World) (R : Row w b g) :
    Calls Try.prog 10 #[.pointer (some ⟨b, 0, none⟩), .int .i64 size, .agg #[.int .u8 0, .int .u64 from_, .int .i64 ent], .bool false] w fun e w' => e = .returned (.tuple #[]) ∧ Row w' b (step g size 0 ent false) ∧ But b w w' := by
  have hb := R.lt
  have hf := R.free
  have h0 := R.cell 0 (by omega)
  have h1 := R.cell 1 (by omega)
  have h12 := R.cell 12 (by omega)
  have h13 := R.cell 13 (by omega)
  have RS := ((R.set (j := 0) (by omega) (g 0 + 1)).set (j := 1) (by omega) (g 1 + IntKind.u64.wrap size)).set (j := 12) (by omega) (g 12 + IntKind.u64.wrap ent)
  have BS := (((But.refl b w).set 0 (.int .u64 (IntKind.u64.wrap (g 0 + 1)))).set 1 (.int .u64 (IntKind.u64.wrap (g 1 + IntKind.u64.wrap size)))).set 12 (.int .u64 (IntKind.u64.wrap (g 12 + IntKind.u64.wrap ent)))
  have HR : Hid (Row _ b (step g size 0 ent false)) := RS.congr (fun j hj => step_out g size ent 0 (.inl rfl) R.ok j hj)
  have HB : Hid (But b w _) := BS
  clear R RS BS
  go_enter Try.func10, Try.ntmps10
  go_wp2
  go_region
  all_goals go_wp2
  go_end0
  exact ⟨rfl, (HR.out.alloc _).drew, (HB.out.alloc _).drew⟩

set_option maxHeartbeats 400000 in
theorem add_of (b : Nat) (g : Nat → Int) (size from_ ent : Int) (c : Nat) (w : World) (R : Row w b g) (hc10 : (10 : Int) < (c : Int)) :
    Calls Try.prog 10 #[.pointer (some ⟨b, 0, none⟩), .int .i64 size, .agg #[.int .u8 c, .int .u64 from_, .int .i64 ent], .bool false] w fun e w' => e = .returned (.tuple #[]) ∧ Row w' b (step g size c ent false) ∧ But b w w' := by
  have hb := R.lt
  have hf := R.free
  have h0 := R.cell 0 (by omega)
  have h1 := R.cell 1 (by omega)
  have h12 := R.cell 12 (by omega)
  have h13 := R.cell 13 (by omega)
  have RS := ((R.set (j := 0) (by omega) (g 0 + 1)).set (j := 1) (by omega) (g 1 + IntKind.u64.wrap size)).set (j := 12) (by omega) (g 12 + IntKind.u64.wrap ent)
  have BS := (((But.refl b w).set 0 (.int .u64 (IntKind.u64.wrap (g 0 + 1)))).set 1 (.int .u64 (IntKind.u64.wrap (g 1 + IntKind.u64.wrap size)))).set 12 (.int .u64 (IntKind.u64.wrap (g 12 + IntKind.u64.wrap ent)))
  have HR : Hid (Row _ b (step g size c ent false)) := RS.congr (fun j hj => step_out g size ent c (.inr (by omega)) R.ok j hj)
  have HB : Hid (But b w _) := BS
  clear R RS BS
  go_enter Try.func10, Try.ntmps10
  go_wp2
  go_region
  all_goals go_wp2
  go_end0
  exact ⟨rfl, (HR.out.alloc _).drew, (HB.out.alloc _).drew⟩

set_option maxHeartbeats 400000 in
theorem add_0t (b : Nat) (g : Nat → Int) (size from_ ent : Int) (w : World) (R : Row w b g) :
    Calls Try.prog 10 #[.pointer (some ⟨b, 0, none⟩), .int .i64 size, .agg #[.int .u8 0, .int .u64 from_, .int .i64 ent], .bool true] w fun e w' => e = .returned (.tuple #[]) ∧ Row w' b (step g size 0 ent true) ∧ But b w w' := by
  have hb := R.lt
  have hf := R.free
  have h0 := R.cell 0 (by omega)
  have h1 := R.cell 1 (by omega)
  have h12 := R.cell 12 (by omega)
  have h13 := R.cell 13 (by omega)
  have RS := (((R.set (j := 0) (by omega) (g 0 + 1)).set (j := 1) (by omega) (g 1 + IntKind.u64.wrap size)).set (j := 12) (by omega) (g 12 + IntKind.u64.wrap ent)).set (j := 13) (by omega) (g 13 + 1)
  have BS := ((((But.refl b w).set 0 (.int .u64 (IntKind.u64.wrap (g 0 + 1)))).set 1 (.int .u64 (IntKind.u64.wrap (g 1 + IntKind.u64.wrap size)))).set 12 (.int .u64 (IntKind.u64.wrap (g 12 + IntKind.u64.wrap ent)))).set 13 (.int .u64 (IntKind.u64.wrap (g 13 + 1)))
  have HR : Hid (Row _ b (step g size 0 ent true)) := RS.congr (fun j hj => step_outT g size ent 0 (.inl rfl) R.ok j hj)
  have HB : Hid (But b w _) := BS
  clear R RS BS
  go_enter Try.func10, Try.ntmps10
  go_wp2
  go_region
  all_goals go_wp2
  go_end0
  exact ⟨rfl, (HR.out.alloc _).drew, (HB.out.alloc _).drew⟩

set_option maxHeartbeats 400000 in
theorem add_ot (b : Nat) (g : Nat → Int) (size from_ ent : Int) (c : Nat) (w : World) (R : Row w b g) (hc10 : (10 : Int) < (c : Int)) :
    Calls Try.prog 10 #[.pointer (some ⟨b, 0, none⟩), .int .i64 size, .agg #[.int .u8 c, .int .u64 from_, .int .i64 ent], .bool true] w fun e w' => e = .returned (.tuple #[]) ∧ Row w' b (step g size c ent true) ∧ But b w w' := by
  have hb := R.lt
  have hf := R.free
  have h0 := R.cell 0 (by omega)
  have h1 := R.cell 1 (by omega)
  have h12 := R.cell 12 (by omega)
  have h13 := R.cell 13 (by omega)
  have RS := (((R.set (j := 0) (by omega) (g 0 + 1)).set (j := 1) (by omega) (g 1 + IntKind.u64.wrap size)).set (j := 12) (by omega) (g 12 + IntKind.u64.wrap ent)).set (j := 13) (by omega) (g 13 + 1)
  have BS := ((((But.refl b w).set 0 (.int .u64 (IntKind.u64.wrap (g 0 + 1)))).set 1 (.int .u64 (IntKind.u64.wrap (g 1 + IntKind.u64.wrap size)))).set 12 (.int .u64 (IntKind.u64.wrap (g 12 + IntKind.u64.wrap ent)))).set 13 (.int .u64 (IntKind.u64.wrap (g 13 + 1)))
  have HR : Hid (Row _ b (step g size c ent true)) := RS.congr (fun j hj => step_outT g size ent c (.inr (by omega)) R.ok j hj)
  have HB : Hid (But b w _) := BS
  clear R RS BS
  go_enter Try.func10, Try.ntmps10
  go_wp2
  go_region
  all_goals go_wp2
  go_end0
  exact ⟨rfl, (HR.out.alloc _).drew, (HB.out.alloc _).drew⟩

theorem add_any (b : Nat) (g : Nat → Int) (size from_ ent : Int) (c : Nat) (tl : Bool) (w : World) (R : Row w b g) :
    Calls Try.prog 10 #[.pointer (some ⟨b, 0, none⟩), .int .i64 size, .agg #[.int .u8 c, .int .u64 from_, .int .i64 ent], .bool tl] w fun e w' => e = .returned (.tuple #[]) ∧ Row w' b (step g size c ent tl) ∧ But b w w' := by
  by_cases h : 10 < c
  · cases tl
    · exact add_of b g size from_ ent c w R (by omega)
    · exact add_ot b g size from_ ent c w R (by omega)
  match c, h with
  | 0, _ =>
    cases tl
    · exact add_0f b g size from_ ent w R
    · exact add_0t b g size from_ ent w R
  | 1, _ =>
    cases tl
    · exact add_1f b g size from_ ent w R
    · exact add_1t b g size from_ ent w R
  | 2, _ =>
    cases tl
    · exact add_2f b g size from_ ent w R
    · exact add_2t b g size from_ ent w R
  | 3, _ =>
    cases tl
    · exact add_3f b g size from_ ent w R
    · exact add_3t b g size from_ ent w R
  | 4, _ =>
    cases tl
    · exact add_4f b g size from_ ent w R
    · exact add_4t b g size from_ ent w R
  | 5, _ =>
    cases tl
    · exact add_5f b g size from_ ent w R
    · exact add_5t b g size from_ ent w R
  | 6, _ =>
    cases tl
    · exact add_6f b g size from_ ent w R
    · exact add_6t b g size from_ ent w R
  | 7, _ =>
    cases tl
    · exact add_7f b g size from_ ent w R
    · exact add_7t b g size from_ ent w R
  | 8, _ =>
    cases tl
    · exact add_8f b g size from_ ent w R
    · exact add_8t b g size from_ ent w R
  | 9, _ =>
    cases tl
    · exact add_9f b g size from_ ent w R
    · exact add_9t b g size from_ ent w R
  | 10, _ =>
    cases tl
    · exact add_10f b g size from_ ent w R
    · exact add_10t b g size from_ ent w R
  | c + 11, h => omega

theorem zadd_any (b : Nat) (g : Nat → Int) (size from_ ent : Int) (c : Nat) (tl : Bool) (w : World) (R : Row w b g) (_hc : (c : Int) < 256) :
    Calls Try.prog 7 #[.pointer (some ⟨b, 0, none⟩), .int .i64 size, .int .u8 c, .int .u64 from_, .int .i64 ent, .bool tl] w fun e w' => e = .returned (.tuple #[]) ∧ Row w' b (step g size c ent tl) ∧ But b w w' := by
  go_enter Try.func7, Try.ntmps7
  go_wp2_with fail
  refine (add_any b g size from_ ent c tl w R).mono ?_
  rintro e w' ⟨rfl, h1, h2⟩
  go_wp2_with fail
  go_end0
  exact ⟨rfl, h1, h2⟩
end Go.Proofs.Qxb6617073a
