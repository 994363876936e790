import Derived.Test.Qxb6617094aRows
import Derived.WalkKit
import Derived.WalkSpells
import Derived.WalkLawsBesides
import Derived.Deep.QuietTactic
import Derived.BigQuiet
import Derived.Deep.RegionWith
namespace Go.Proofs.Qxb6617094a
open Go.RowKit

/-! ### Plain laws on octets -/
/-- 1 for true, 0 for false. -/
def bitOf (b : Bool) : Int := if b then 1 else 0
/-- The lower half of an octet, out of its four flags. -/
def half (b0 b1 b2 b3 : Bool) : Int := 8 * bitOf b0 + 4 * bitOf b1 + 2 * bitOf b2 + bitOf b3
/-- Bit j of an octet. -/
def fl (o j : Nat) : Bool := o.testBit j

theorem tb3 : ∀ a : Nat, a < 256 → ((a &&& 8 : Nat) != 0) = fl a 3 := by decide +kernel
theorem tb2 : ∀ a : Nat, a < 256 → ((a &&& 4 : Nat) != 0) = fl a 2 := by decide +kernel
theorem tb1 : ∀ a : Nat, a < 256 → ((a &&& 2 : Nat) != 0) = fl a 1 := by decide +kernel
theorem tb0 : ∀ a : Nat, a < 256 → ((a &&& 1 : Nat) != 0) = fl a 0 := by decide +kernel
theorem cast_ne (n : Nat) : ((n : Int) != 0) = (n != 0) := by
  rw [Bool.eq_iff_iff]; simp [Int.natCast_eq_zero]
theorem and8 {a : Nat} (h : a < 256) : (bits .and .u8 (a : Int) 8 != 0) = fl a 3 := by
  rw [show (8 : Int) = ((8 : Nat) : Int) from rfl, u8_and_nat a 8 h (by omega), cast_ne, tb3 a h]
theorem and4 {a : Nat} (h : a < 256) : (bits .and .u8 (a : Int) 4 != 0) = fl a 2 := by
  rw [show (4 : Int) = ((4 : Nat) : Int) from rfl, u8_and_nat a 4 h (by omega), cast_ne, tb2 a h]
theorem and2 {a : Nat} (h : a < 256) : (bits .and .u8 (a : Int) 2 != 0) = fl a 1 := by
  rw [show (2 : Int) = ((2 : Nat) : Int) from rfl, u8_and_nat a 2 h (by omega), cast_ne, tb1 a h]
theorem and1 {a : Nat} (h : a < 256) : (bits .and .u8 (a : Int) 1 != 0) = fl a 0 := by
  rw [show (1 : Int) = ((1 : Nat) : Int) from rfl, u8_and_nat a 1 h (by omega), cast_ne, tb0 a h]
theorem half_eq (b0 b1 b2 b3 : Bool) : bits BinOp.or IntKind.u8 (bits BinOp.or IntKind.u8 (bits BinOp.or IntKind.u8 (bitOf b0 * 8 % 256) (bitOf b1 * 4 % 256)) (bitOf b2 * 2 % 256)) (bitOf b3) = half b0 b1 b2 b3 := by
  cases b0 <;> cases b1 <;> cases b2 <;> cases b3 <;> decide +kernel
theorem half_of_nat : ∀ a : Nat, a < 256 → half (fl a 3) (fl a 2) (fl a 1) (fl a 0) = ((a &&& 15 : Nat) : Int) := by decide +kernel
theorem half_of {a : Nat} (h : a < 256) : half (fl a 3) (fl a 2) (fl a 1) (fl a 0) = bits .and .u8 (a : Int) 15 := by
  rw [show (15 : Int) = ((15 : Nat) : Int) from rfl, u8_and_nat a 15 h (by omega), half_of_nat a h]
theorem xor_lt : ∀ a : Nat, a < 256 → a ^^^ 240 < 256 := by decide +kernel
theorem xor_keeps : ∀ a : Nat, a < 256 → fl (a ^^^ 240) 3 = fl a 3 ∧ fl (a ^^^ 240) 2 = fl a 2 ∧ fl (a ^^^ 240) 1 = fl a 1 ∧ fl (a ^^^ 240) 0 = fl a 0 := by decide +kernel
theorem xor240 {a : Nat} (h : a < 256) : bits .xor .u8 (a : Int) 240 = ((a ^^^ 240 : Nat) : Int) := by
  rw [show (240 : Int) = ((240 : Nat) : Int) from rfl, u8_xor_nat a 240 h (by omega)]
/-! ### The leaves -/
theorem bit_any (b : Bool) (w : World) : Calls Try.prog 11 #[.bool b] w fun e w' => e = .returned (.int .u8 (bitOf b)) ∧ w = w' := by
  cases b
  · go_enter Try.func11, Try.ntmps11
    go_wp2
    go_ret
    exact ⟨rfl, rfl⟩
  · go_enter Try.func11, Try.ntmps11
    go_wp2
    go_ret
    exact ⟨rfl, rfl⟩
theorem zbit_any (b : Bool) (w : World) : Calls Try.prog 9 #[.bool b] w fun e w' => e = .returned (.int .u8 (bitOf b)) ∧ w = w' := by
  go_enter Try.func9, Try.ntmps9
  go_wp2_with (go_at_call 11; refine (bit_any _ _).mono ?_; rintro e w' ⟨rfl, rfl⟩)
  go_ret
  exact ⟨rfl, rfl⟩

theorem state_any (o : Nat) (ho : o < 256) (w : World) : Calls Try.prog 10 #[.int .u8 o] w fun e w' => e = .returned (.agg #[.bool (fl o 3), .bool (fl o 2), .bool (fl o 1), .bool (fl o 0)]) ∧ Below w.heap.size w w' := by
  have h8 := and8 ho
  have h4 := and4 ho
  have h2 := and2 ho
  have h1 := and1 ho
  go_enter Try.func10, Try.ntmps10
  go_wp2
  exact bodyPost_ret (v := .agg #[.bool (fl o 3), .bool (fl o 2), .bool (fl o 1), .bool (fl o 0)]) (by simp [results, Try.results10, go_sem]) rfl ⟨rfl, (Below.refl _ _).alloc (Nat.le_refl _) _⟩

theorem set4 {B : Nat} {w w1 : World} (h : Below B w w1) (x0 x1 x2 x3 : Value) :
    Below B w ((((w1.setCell ⟨B, 0, none⟩ x0).setCell ⟨B, 1, none⟩ x1).setCell ⟨B, 2, none⟩ x2).setCell ⟨B, 3, none⟩ x3) :=
  (((h.setCell (p := ⟨B, 0, none⟩) (Nat.le_refl _) _).setCell (p := ⟨B, 1, none⟩) (Nat.le_refl _) _).setCell (p := ⟨B, 2, none⟩) (Nat.le_refl _) _).setCell (p := ⟨B, 3, none⟩) (Nat.le_refl _) _

theorem zstate_any (o : Nat) (ho : o < 256) (w : World) : Calls Try.prog 5 #[.int .u8 o] w fun e w' => e = .returned (.agg #[.bool (fl o 3), .bool (fl o 2), .bool (fl o 1), .bool (fl o 0)]) ∧ Below w.heap.size w w' := by
  go_enter Try.func5, Try.ntmps5
  go_wp2_with fail
  refine (state_any o ho _).mono ?_
  rintro e w1 ⟨rfl, hb⟩
  have hb' : Below w.heap.size w w1 := ((Below.refl _ _).alloc (Nat.le_refl _) _).trans (hb.mono (by simp))
  have c0 : w1.cell? ⟨w.heap.size, 0, none⟩ = some (.bool false) := (hb.cell (p := ⟨w.heap.size, 0, none⟩) (by simp)).trans (by simp)
  have c1 : w1.cell? ⟨w.heap.size, 1, none⟩ = some (.bool false) := (hb.cell (p := ⟨w.heap.size, 1, none⟩) (by simp)).trans (by simp)
  have c2 : w1.cell? ⟨w.heap.size, 2, none⟩ = some (.bool false) := (hb.cell (p := ⟨w.heap.size, 2, none⟩) (by simp)).trans (by simp)
  have c3 : w1.cell? ⟨w.heap.size, 3, none⟩ = some (.bool false) := (hb.cell (p := ⟨w.heap.size, 3, none⟩) (by simp)).trans (by simp)
  have hf : ∀ j, w1.frozen? ⟨w.heap.size, j, none⟩ = false := fun j => (hb.frozen (p := ⟨w.heap.size, j, none⟩) (by simp)).trans (by simp)
  go_wp2_with fail
  exact bodyPost_ret (v := .agg #[.bool (fl o 3), .bool (fl o 2), .bool (fl o 1), .bool (fl o 0)]) (by simp [results, Try.results5, go_sem, c0, c1, c2, c3]) rfl ⟨rfl, set4 hb' _ _ _ _⟩

set_option maxHeartbeats 400000 in
theorem enc_any (b0 b1 b2 b3 : Bool) (w : World) : Calls Try.prog 6 #[.agg #[.bool b0, .bool b1, .bool b2, .bool b3]] w fun e w' => e = .returned (.int .u8 (half b0 b1 b2 b3)) ∧ Below w.heap.size w w' := by
  have hh := half_eq b0 b1 b2 b3
  have HH : Hid (bits BinOp.or IntKind.u8 (bits BinOp.or IntKind.u8 (bits BinOp.or IntKind.u8 (bitOf b0 * 8 % 256) (bitOf b1 * 4 % 256)) (bitOf b2 * 2 % 256)) (bitOf b3) = half b0 b1 b2 b3) := hh
  clear hh
  go_enter Try.func6, Try.ntmps6
  go_wp2
  go_quiet ((go_at_call 9; exact Calls.quiet_of_same ((zbit_any _ _).mono fun e w' ⟨h1, h2⟩ => ⟨h1, h2.symm⟩)))
  rw [HH.out]
  go_wp2
  go_ret
  exact ⟨rfl, below_drewN ((Below.refl _ _).alloc (Nat.le_refl _) _) _⟩
theorem laid3 (w : World) (o1 o2 o3 : Obj) : Below w.heap.size w (((w.alloc o1).alloc o2).alloc o3) :=
  (((Below.refl _ _).alloc (Nat.le_refl _) _).alloc (by simp) _).alloc (by rw [World.size_alloc, World.size_alloc]; omega) _

set_option maxHeartbeats 2000000 in
theorem or_any (a0 a1 a2 a3 b0 b1 b2 b3 : Bool) (w : World) : Calls Try.prog 7 #[.agg #[.bool a0, .bool a1, .bool a2, .bool a3], .agg #[.bool b0, .bool b1, .bool b2, .bool b3]] w fun e w' => e = .returned (.agg #[.bool (a0 || b0), .bool (a1 || b1), .bool (a2 || b2), .bool (a3 || b3)]) ∧ Below w.heap.size w w' := by
  cases a0 <;> cases a1 <;> cases a2 <;> cases a3
  · go_enter Try.func7, Try.ntmps7
    go_wp2
    exact bodyPost_ret (v := .agg #[.bool b0, .bool b1, .bool b2, .bool b3]) (by simp [results, Try.results7, go_sem]) rfl ⟨rfl, laid3 w _ _ _⟩
  · go_enter Try.func7, Try.ntmps7
    go_wp2
    exact bodyPost_ret (v := .agg #[.bool b0, .bool b1, .bool b2, .bool true]) (by simp [results, Try.results7, go_sem]) rfl ⟨rfl, laid3 w _ _ _⟩
  · go_enter Try.func7, Try.ntmps7
    go_wp2
    exact bodyPost_ret (v := .agg #[.bool b0, .bool b1, .bool true, .bool b3]) (by simp [results, Try.results7, go_sem]) rfl ⟨rfl, laid3 w _ _ _⟩
  · go_enter Try.func7, Try.ntmps7
    go_wp2
    exact bodyPost_ret (v := .agg #[.bool b0, .bool b1, .bool true, .bool true]) (by simp [results, Try.results7, go_sem]) rfl ⟨rfl, laid3 w _ _ _⟩
  · go_enter Try.func7, Try.ntmps7
    go_wp2
    exact bodyPost_ret (v := .agg #[.bool b0, .bool true, .bool b2, .bool b3]) (by simp [results, Try.results7, go_sem]) rfl ⟨rfl, laid3 w _ _ _⟩
  · go_enter Try.func7, Try.ntmps7
    go_wp2
    exact bodyPost_ret (v := .agg #[.bool b0, .bool true, .bool b2, .bool true]) (by simp [results, Try.results7, go_sem]) rfl ⟨rfl, laid3 w _ _ _⟩
  · go_enter Try.func7, Try.ntmps7
    go_wp2
    exact bodyPost_ret (v := .agg #[.bool b0, .bool true, .bool true, .bool b3]) (by simp [results, Try.results7, go_sem]) rfl ⟨rfl, laid3 w _ _ _⟩
  · go_enter Try.func7, Try.ntmps7
    go_wp2
    exact bodyPost_ret (v := .agg #[.bool b0, .bool true, .bool true, .bool true]) (by simp [results, Try.results7, go_sem]) rfl ⟨rfl, laid3 w _ _ _⟩
  · go_enter Try.func7, Try.ntmps7
    go_wp2
    exact bodyPost_ret (v := .agg #[.bool true, .bool b1, .bool b2, .bool b3]) (by simp [results, Try.results7, go_sem]) rfl ⟨rfl, laid3 w _ _ _⟩
  · go_enter Try.func7, Try.ntmps7
    go_wp2
    exact bodyPost_ret (v := .agg #[.bool true, .bool b1, .bool b2, .bool true]) (by simp [results, Try.results7, go_sem]) rfl ⟨rfl, laid3 w _ _ _⟩
  · go_enter Try.func7, Try.ntmps7
    go_wp2
    exact bodyPost_ret (v := .agg #[.bool true, .bool b1, .bool true, .bool b3]) (by simp [results, Try.results7, go_sem]) rfl ⟨rfl, laid3 w _ _ _⟩
  · go_enter Try.func7, Try.ntmps7
    go_wp2
    exact bodyPost_ret (v := .agg #[.bool true, .bool b1, .bool true, .bool true]) (by simp [results, Try.results7, go_sem]) rfl ⟨rfl, laid3 w _ _ _⟩
  · go_enter Try.func7, Try.ntmps7
    go_wp2
    exact bodyPost_ret (v := .agg #[.bool true, .bool true, .bool b2, .bool b3]) (by simp [results, Try.results7, go_sem]) rfl ⟨rfl, laid3 w _ _ _⟩
  · go_enter Try.func7, Try.ntmps7
    go_wp2
    exact bodyPost_ret (v := .agg #[.bool true, .bool true, .bool b2, .bool true]) (by simp [results, Try.results7, go_sem]) rfl ⟨rfl, laid3 w _ _ _⟩
  · go_enter Try.func7, Try.ntmps7
    go_wp2
    exact bodyPost_ret (v := .agg #[.bool true, .bool true, .bool true, .bool b3]) (by simp [results, Try.results7, go_sem]) rfl ⟨rfl, laid3 w _ _ _⟩
  · go_enter Try.func7, Try.ntmps7
    go_wp2
    exact bodyPost_ret (v := .agg #[.bool true, .bool true, .bool true, .bool true]) (by simp [results, Try.results7, go_sem]) rfl ⟨rfl, laid3 w _ _ _⟩

set_option maxHeartbeats 2000000 in
theorem and_any (a0 a1 a2 a3 b0 b1 b2 b3 : Bool) (w : World) : Calls Try.prog 8 #[.agg #[.bool a0, .bool a1, .bool a2, .bool a3], .agg #[.bool b0, .bool b1, .bool b2, .bool b3]] w fun e w' => e = .returned (.agg #[.bool (a0 && b0), .bool (a1 && b1), .bool (a2 && b2), .bool (a3 && b3)]) ∧ Below w.heap.size w w' := by
  cases a0 <;> cases a1 <;> cases a2 <;> cases a3
  · go_enter Try.func8, Try.ntmps8
    go_wp2
    exact bodyPost_ret (v := .agg #[.bool false, .bool false, .bool false, .bool false]) (by simp [results, Try.results8, go_sem]) rfl ⟨rfl, laid3 w _ _ _⟩
  · go_enter Try.func8, Try.ntmps8
    go_wp2
    exact bodyPost_ret (v := .agg #[.bool false, .bool false, .bool false, .bool b3]) (by simp [results, Try.results8, go_sem]) rfl ⟨rfl, laid3 w _ _ _⟩
  · go_enter Try.func8, Try.ntmps8
    go_wp2
    exact bodyPost_ret (v := .agg #[.bool false, .bool false, .bool b2, .bool false]) (by simp [results, Try.results8, go_sem]) rfl ⟨rfl, laid3 w _ _ _⟩
  · go_enter Try.func8, Try.ntmps8
    go_wp2
    exact bodyPost_ret (v := .agg #[.bool false, .bool false, .bool b2, .bool b3]) (by simp [results, Try.results8, go_sem]) rfl ⟨rfl, laid3 w _ _ _⟩
  · go_enter Try.func8, Try.ntmps8
    go_wp2
    exact bodyPost_ret (v := .agg #[.bool false, .bool b1, .bool false, .bool false]) (by simp [results, Try.results8, go_sem]) rfl ⟨rfl, laid3 w _ _ _⟩
  · go_enter Try.func8, Try.ntmps8
    go_wp2
    exact bodyPost_ret (v := .agg #[.bool false, .bool b1, .bool false, .bool b3]) (by simp [results, Try.results8, go_sem]) rfl ⟨rfl, laid3 w _ _ _⟩
  · go_enter Try.func8, Try.ntmps8
    go_wp2
    exact bodyPost_ret (v := .agg #[.bool false, .bool b1, .bool b2, .bool false]) (by simp [results, Try.results8, go_sem]) rfl ⟨rfl, laid3 w _ _ _⟩
  · go_enter Try.func8, Try.ntmps8
    go_wp2
    exact bodyPost_ret (v := .agg #[.bool false, .bool b1, .bool b2, .bool b3]) (by simp [results, Try.results8, go_sem]) rfl ⟨rfl, laid3 w _ _ _⟩
  · go_enter Try.func8, Try.ntmps8
    go_wp2
    exact bodyPost_ret (v := .agg #[.bool b0, .bool false, .bool false, .bool false]) (by simp [results, Try.results8, go_sem]) rfl ⟨rfl, laid3 w _ _ _⟩
  · go_enter Try.func8, Try.ntmps8
    go_wp2
    exact bodyPost_ret (v := .agg #[.bool b0, .bool false, .bool false, .bool b3]) (by simp [results, Try.results8, go_sem]) rfl ⟨rfl, laid3 w _ _ _⟩
  · go_enter Try.func8, Try.ntmps8
    go_wp2
    exact bodyPost_ret (v := .agg #[.bool b0, .bool false, .bool b2, .bool false]) (by simp [results, Try.results8, go_sem]) rfl ⟨rfl, laid3 w _ _ _⟩
  · go_enter Try.func8, Try.ntmps8
    go_wp2
    exact bodyPost_ret (v := .agg #[.bool b0, .bool false, .bool b2, .bool b3]) (by simp [results, Try.results8, go_sem]) rfl ⟨rfl, laid3 w _ _ _⟩
  · go_enter Try.func8, Try.ntmps8
    go_wp2
    exact bodyPost_ret (v := .agg #[.bool b0, .bool b1, .bool false, .bool false]) (by simp [results, Try.results8, go_sem]) rfl ⟨rfl, laid3 w _ _ _⟩
  · go_enter Try.func8, Try.ntmps8
    go_wp2
    exact bodyPost_ret (v := .agg #[.bool b0, .bool b1, .bool false, .bool b3]) (by simp [results, Try.results8, go_sem]) rfl ⟨rfl, laid3 w _ _ _⟩
  · go_enter Try.func8, Try.ntmps8
    go_wp2
    exact bodyPost_ret (v := .agg #[.bool b0, .bool b1, .bool b2, .bool false]) (by simp [results, Try.results8, go_sem]) rfl ⟨rfl, laid3 w _ _ _⟩
  · go_enter Try.func8, Try.ntmps8
    go_wp2
    exact bodyPost_ret (v := .agg #[.bool b0, .bool b1, .bool b2, .bool b3]) (by simp [results, Try.results8, go_sem]) rfl ⟨rfl, laid3 w _ _ _⟩

end Go.Proofs.Qxb6617094a
