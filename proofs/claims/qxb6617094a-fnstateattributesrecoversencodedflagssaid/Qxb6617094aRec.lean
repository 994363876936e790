import Derived.Test.Qxb6617094aOctet
namespace Go.Proofs.Qxb6617094a
open Go.RowKit

theorem halfN (b0 b1 b2 b3 : Bool) : ∃ m : Nat, m < 16 ∧ half b0 b1 b2 b3 = (m : Int) ∧ fl m 3 = b0 ∧ fl m 2 = b1 ∧ fl m 1 = b2 ∧ fl m 0 = b3 :=
  ⟨(half b0 b1 b2 b3).toNat, by cases b0 <;> cases b1 <;> cases b2 <;> cases b3 <;> decide, by cases b0 <;> cases b1 <;> cases b2 <;> cases b3 <;> decide, by cases b0 <;> cases b1 <;> cases b2 <;> cases b3 <;> decide, by cases b0 <;> cases b1 <;> cases b2 <;> cases b3 <;> decide, by cases b0 <;> cases b1 <;> cases b2 <;> cases b3 <;> decide, by cases b0 <;> cases b1 <;> cases b2 <;> cases b3 <;> decide⟩

theorem joined : ∀ m : Nat, m < 16 → ∀ h : Nat, h < 256 → (m ||| h * 16 % 256) < 256 ∧ fl (m ||| h * 16 % 256) 3 = fl m 3 ∧ fl (m ||| h * 16 % 256) 2 = fl m 2 ∧ fl (m ||| h * 16 % 256) 1 = fl m 1 ∧ fl (m ||| h * 16 % 256) 0 = fl m 0 := by
  decide +kernel

theorem oct_of (b0 b1 b2 b3 : Bool) (h : Nat) (hh : h < 256) : ∃ o : Nat, o < 256 ∧
    bits BinOp.or IntKind.u8 (bits BinOp.or IntKind.u8 (bits BinOp.or IntKind.u8 (bits BinOp.or IntKind.u8 (bitOf b0 * 8 % 256) (bitOf b1 * 4 % 256)) (bitOf b2 * 2 % 256)) (bitOf b3)) ((h : Int) * 16 % 256) = (o : Int) ∧ fl o 3 = b0 ∧ fl o 2 = b1 ∧ fl o 1 = b2 ∧ fl o 0 = b3 := by
  obtain ⟨m, hm, hM, m3, m2, m1, m0⟩ := halfN b0 b1 b2 b3
  obtain ⟨hl, j3, j2, j1, j0⟩ := joined m hm h hh
  refine ⟨m ||| h * 16 % 256, hl, ?_, j3.trans m3, j2.trans m2, j1.trans m1, j0.trans m0⟩
  rw [half_eq, hM, show (h : Int) * 16 % 256 = ((h * 16 % 256 : Nat) : Int) by omega]
  exact u8_or_nat m _ (by omega) (by omega)

set_option maxHeartbeats 1000000 in
theorem rec_any (b0 b1 b2 b3 : Bool) (h : Nat) (hh : h < 256) (w : World) :
    Calls Try.prog 4 #[.bool b0, .bool b1, .bool b2, .bool b3, .int .u8 h] w fun e w' => e = .returned (.bool true) ∧ Below w.heap.size w w' := by
  obtain ⟨o, ho, hE, h3, h2, h1, h0⟩ := oct_of b0 b1 b2 b3 h hh
  have HE := hE
  have H3 : Hid (fl o 3 = b0) := h3
  have H2 : Hid (fl o 2 = b1) := h2
  have H1 : Hid (fl o 1 = b2) := h1
  have H0 : Hid (fl o 0 = b3) := h0
  clear h3 h2 h1 h0
  go_enter Try.func4, Try.ntmps4
  go_wp2_with (go_at_call 9; refine (zbit_any _ _).mono ?_; rintro e w' ⟨rfl, rfl⟩)
  refine (zstate_any o ho w).mono ?_
  rintro e w1 ⟨rfl, hb⟩
  rw [H3.out, H2.out, H1.out, H0.out]
  have hs := hb.size
  clear hE HE
  go_wp2_with fail
  go_ret
  exact ⟨rfl, hb.alloc hs _⟩
end Go.Proofs.Qxb6617094a
