import Derived.Test.Qxb6617094aOctet
import Derived.Deep.DeepCutAuto
namespace Go.Proofs.Qxb6617094a
open Go.RowKit

theorem own23 : Try.prog.underlying 23 = some (.struct (Try.prog.fieldsOf 23)) := by kernel_rfl
theorem held23 : Try.prog.stoodInHeld 23 = false := by kernel_rfl
theorem eq23 (a0 a1 a2 a3 b0 b1 b2 b3 : Bool) (w : World) : (Op.equalIn 10000 23 (.agg #[.bool a0, .bool a1, .bool a2, .bool a3]) (.agg #[.bool b0, .bool b1, .bool b2, .bool b3])).run Try.prog w = .ok (a0 == b0 && a1 == b1 && a2 == b2 && a3 == b3) w := by
  have u4 := Try.underlying4
  have a4 := Try.isAgg4
  have z4 := Try.sizeOf4
  rw [show (10000 : Nat) = 9999 + 1 from rfl, run_equalIn_agg w 9999 23 _ _ own23 held23]
  simp only [Program.fieldsOf, Try.underlying23]
  go_simp
  cases a0 <;> cases b0 <;> cases a1 <;> cases b1 <;> cases a2 <;> cases b2 <;> cases a3 <;> cases b3 <;> rfl
theorem neq23 (a0 a1 a2 a3 : Bool) (w : World) : (binOp .neq 23 (.agg #[.bool a0, .bool a1, .bool a2, .bool a3]) (.agg #[.bool a0, .bool a1, .bool a2, .bool a3])).run Try.prog w = .ok (.bool false) w := by
  rw [run_neq_struct, eq23]
  simp

theorem or_lt {a b : Nat} (ha : a < 256) (hb : b < 256) : a ||| b < 256 := Nat.or_lt_two_pow (n := 8) ha hb
theorem and_lt {a : Nat} (ha : a < 256) (b : Nat) : a &&& b < 256 := Nat.and_lt_two_pow (n := 8) b (by omega) |> fun h => by simpa [Nat.and_comm] using h
theorem fl_or (a b j : Nat) : fl (a ||| b) j = (fl a j || fl b j) := Nat.testBit_or a b j
theorem fl_and (a b j : Nat) : fl (a &&& b) j = (fl a j && fl b j) := Nat.testBit_and a b j

/-- The state of an octet that is read back under another name. -/
theorem zstate_r (x : Int) (o : Nat) (ho : o < 256) (hx : x = (o : Int)) (b3 b2 b1 b0 : Bool) (h3 : fl o 3 = b3) (h2 : fl o 2 = b2) (h1 : fl o 1 = b1) (h0 : fl o 0 = b0) (w : World) :
    Calls Try.prog 5 #[.int .u8 x] w fun e w' => e = .returned (.agg #[.bool b3, .bool b2, .bool b1, .bool b0]) ∧ Below w.heap.size w w' := by
  subst hx h3 h2 h1 h0
  exact zstate_any o ho w

/-- Four flags laid in block b. -/
structure Box4 (w : World) (b : Nat) (x3 x2 x1 x0 : Bool) : Prop where
  lt : b < w.heap.size
  c0 : w.cell? ⟨b, 0, none⟩ = some (.bool x3)
  c1 : w.cell? ⟨b, 1, none⟩ = some (.bool x2)
  c2 : w.cell? ⟨b, 2, none⟩ = some (.bool x1)
  c3 : w.cell? ⟨b, 3, none⟩ = some (.bool x0)
theorem Box4.below {w w' : World} {b B : Nat} {x3 x2 x1 x0 : Bool} (h : Box4 w b x3 x2 x1 x0) (hb : Below B w w') (hB : b < B) : Box4 w' b x3 x2 x1 x0 :=
  ⟨Nat.lt_of_lt_of_le h.lt hb.size, (hb.cell (p := ⟨b, 0, none⟩) hB).trans h.c0, (hb.cell (p := ⟨b, 1, none⟩) hB).trans h.c1, (hb.cell (p := ⟨b, 2, none⟩) hB).trans h.c2, (hb.cell (p := ⟨b, 3, none⟩) hB).trans h.c3⟩
theorem Box4.laid (w : World) (x3 x2 x1 x0 : Bool) : Box4 (w.alloc (.cells #[.bool x3, .bool x2, .bool x1, .bool x0] 23)) w.heap.size x3 x2 x1 x0 :=
  ⟨by simp, by simp, by simp, by simp, by simp⟩

set_option maxHeartbeats 1000000 in
theorem trip_any (o p : Nat) (ho : o < 256) (hp : p < 256) (w : World) :
    Calls Try.prog 3 #[.int .u8 o, .int .u8 p] w fun e w' => e = .returned (.bool true) ∧ Below w.heap.size w w' := by
  have HX : Hid (bits .xor .u8 (o : Int) 240 = ((o ^^^ 240 : Nat) : Int)) := xor240 ho
  have HO : Hid (bits .or .u8 (o : Int) p = ((o ||| p : Nat) : Int)) := u8_or_nat o p ho hp
  have HA : Hid (bits .and .u8 (o : Int) p = ((o &&& p : Nat) : Int)) := u8_and_nat o p ho hp
  have hh := half_of ho
  have HH : Hid (half (fl o 3) (fl o 2) (fl o 1) (fl o 0) = bits .and .u8 (o : Int) 15) := hh
  clear hh
  have hx := neq23
  go_enter Try.func3, Try.ntmps3
  go_wp2_with fail
  refine (zstate_any o ho w).mono ?_
  rintro e w1 ⟨rfl, b1⟩
  have z1 := b1.size
  have B1 := Box4.laid w1 (fl o 3) (fl o 2) (fl o 1) (fl o 0)
  have bb1 := b1.alloc z1 (.cells #[.bool (fl o 3), .bool (fl o 2), .bool (fl o 1), .bool (fl o 0)] 23)
  go_wp2_with fail
  refine (enc_any _ _ _ _ _).mono ?_
  rintro e w2 ⟨rfl, b2⟩
  rw [HH.out]
  have B2 := B1.below b2 B1.lt
  have bb2 := bb1.trans (b2.mono (by simp; omega))
  have lt2 := B2.lt
  have y2 : w.heap.size ≤ w2.heap.size := bb2.size
  obtain ⟨_, k0, k1, k2, k3⟩ := B2
  have B2' : Box4 w2.drew w1.heap.size (fl o 3) (fl o 2) (fl o 1) (fl o 0) := ⟨lt2, k0, k1, k2, k3⟩
  have C5 := fun W => zstate_r _ (o ^^^ 240) (xor_lt o ho) HX.out (fl o 3) (fl o 2) (fl o 1) (fl o 0) (xor_keeps o ho).1 (xor_keeps o ho).2.1 (xor_keeps o ho).2.2.1 (xor_keeps o ho).2.2.2 W
  clear b1 z1 B1 bb1 b2 HH
  go_upto_region 4 with fail
  go_cut [18] (fun s wx => s = .bool false ∧ Below w.heap.size w wx ∧ Box4 wx w1.heap.size (fl o 3) (fl o 2) (fl o 1) (fl o 0))
  case first =>
    go_region_with (go_at_call 5; refine (C5 _).mono ?_; rintro e w3 ⟨rfl, b3⟩; have BB3 := B2'.below b3 lt2; have bx3 := bb2.drew.trans (b3.mono y2); have kk0 := BB3.c0; have kk1 := BB3.c1; have kk2 := BB3.c2; have kk3 := BB3.c3)
    all_goals (go_wp2_with fail; go_meet; exact ⟨rfl, by assumption, by assumption⟩)
  case rest =>
  obtain ⟨rfl, bb3, B3⟩ := hcut
  clear C5 B2' k0 k1 k2 k3 bb2 lt2 y2
  go_wp2_with fail
  refine (zstate_any p hp _).mono ?_
  rintro e w4 ⟨rfl, b4⟩
  have z4 := b4.size
  have B4 := B3.below b4 B3.lt
  have bb4 := bb3.trans (b4.mono bb3.size)
  have y4 := bb4.size
  clear bb3 B3 b4
  have D4 := Box4.laid w4 (fl p 3) (fl p 2) (fl p 1) (fl p 0)
  have B5 := B4.below ((Below.refl _ _).alloc (Nat.le_refl _) (.cells #[.bool (fl p 3), .bool (fl p 2), .bool (fl p 1), .bool (fl p 0)] 23)) B4.lt
  have bb5 := bb4.alloc y4 (.cells #[.bool (fl p 3), .bool (fl p 2), .bool (fl p 1), .bool (fl p 0)] 23)
  have lta : w1.heap.size < (w4.alloc (.cells #[.bool (fl p 3), .bool (fl p 2), .bool (fl p 1), .bool (fl p 0)] 23)).heap.size := B5.lt
  have ltb : w4.heap.size < (w4.alloc (.cells #[.bool (fl p 3), .bool (fl p 2), .bool (fl p 1), .bool (fl p 0)] 23)).heap.size := D4.lt
  have yd := bb5.size
  have Bd : Box4 (w4.alloc (.cells #[.bool (fl p 3), .bool (fl p 2), .bool (fl p 1), .bool (fl p 0)] 23)).drew w1.heap.size (fl o 3) (fl o 2) (fl o 1) (fl o 0) := ⟨B5.lt, B5.c0, B5.c1, B5.c2, B5.c3⟩
  have Dd : Box4 (w4.alloc (.cells #[.bool (fl p 3), .bool (fl p 2), .bool (fl p 1), .bool (fl p 0)] 23)).drew w4.heap.size (fl p 3) (fl p 2) (fl p 1) (fl p 0) := ⟨D4.lt, D4.c0, D4.c1, D4.c2, D4.c3⟩
  have bd := bb5.drew
  have i0 := B4.c0
  have i1 := B4.c1
  have i2 := B4.c2
  have i3 := B4.c3
  have i4 := B4.lt
  have C6 := fun W => zstate_r _ (o ||| p) (or_lt ho hp) HO.out (fl o 3 || fl p 3) (fl o 2 || fl p 2) (fl o 1 || fl p 1) (fl o 0 || fl p 0) (fl_or o p 3) (fl_or o p 2) (fl_or o p 1) (fl_or o p 0) W
  go_upto_region 7 with fail
  go_cut [28] (fun s wx => s = .bool false ∧ Below w.heap.size w wx ∧ Box4 wx w1.heap.size (fl o 3) (fl o 2) (fl o 1) (fl o 0) ∧ Box4 wx w4.heap.size (fl p 3) (fl p 2) (fl p 1) (fl p 0))
  case first =>
    go_region_with (first | (go_at_call 5; refine (C6 _).mono ?_; rintro e w6 ⟨rfl, b6⟩; have BB6 := Bd.below b6 lta; have DD6 := Dd.below b6 ltb; have bx6 := bd.trans (b6.mono yd); have yy6 := bx6.size; have k0 := BB6.c0; have k1 := BB6.c1; have k2 := BB6.c2; have k3 := BB6.c3; have m0 := DD6.c0; have m1 := DD6.c1; have m2 := DD6.c2; have m3 := DD6.c3) | (go_at_call 7; refine (or_any _ _ _ _ _ _ _ _ _).mono ?_; rintro e w7 ⟨rfl, b7⟩; have BB7 := BB6.below b7 BB6.lt; have DD7 := DD6.below b7 DD6.lt; have bx7 := bx6.trans (b7.mono yy6)))
    all_goals (go_wp2_with fail; go_meet; exact ⟨rfl, by assumption, by assumption, by assumption⟩)
  case rest =>
  obtain ⟨rfl, bb8, B8, D8⟩ := hcut
  clear C6 Bd Dd bd lta ltb yd bb5 B5 D4 B4 bb4 i0 i1 i2 i3 i4
  have lta := B8.lt
  have ltb := D8.lt
  have yd := bb8.size
  have Bd : Box4 wc.drew w1.heap.size (fl o 3) (fl o 2) (fl o 1) (fl o 0) := ⟨B8.lt, B8.c0, B8.c1, B8.c2, B8.c3⟩
  have Dd : Box4 wc.drew w4.heap.size (fl p 3) (fl p 2) (fl p 1) (fl p 0) := ⟨D8.lt, D8.c0, D8.c1, D8.c2, D8.c3⟩
  have bd := bb8.drew
  have i0 := B8.c0
  have i1 := B8.c1
  have i2 := B8.c2
  have i3 := B8.c3
  have j0 := D8.c0
  have j1 := D8.c1
  have j2 := D8.c2
  have j3 := D8.c3
  have C7 := fun W => zstate_r _ (o &&& p) (and_lt ho p) HA.out (fl o 3 && fl p 3) (fl o 2 && fl p 2) (fl o 1 && fl p 1) (fl o 0 && fl p 0) (fl_and o p 3) (fl_and o p 2) (fl_and o p 1) (fl_and o p 0) W
  go_upto_region 9 with fail
  go_cut [36] (fun s wx => s = .bool false ∧ Below w.heap.size w wx ∧ Box4 wx w1.heap.size (fl o 3) (fl o 2) (fl o 1) (fl o 0) ∧ Box4 wx w4.heap.size (fl p 3) (fl p 2) (fl p 1) (fl p 0))
  case first =>
    go_region_with (first | (go_at_call 5; refine (C7 _).mono ?_; rintro e w6 ⟨rfl, b6⟩; have BB6 := Bd.below b6 lta; have DD6 := Dd.below b6 ltb; have bx6 := bd.trans (b6.mono yd); have yy6 := bx6.size; have k0 := BB6.c0; have k1 := BB6.c1; have k2 := BB6.c2; have k3 := BB6.c3; have m0 := DD6.c0; have m1 := DD6.c1; have m2 := DD6.c2; have m3 := DD6.c3) | (go_at_call 8; refine (and_any _ _ _ _ _ _ _ _ _).mono ?_; rintro e w7 ⟨rfl, b7⟩; have BB7 := BB6.below b7 BB6.lt; have DD7 := DD6.below b7 DD6.lt; have bx7 := bx6.trans (b7.mono yy6)))
    all_goals (go_wp2_with fail; go_meet; exact ⟨rfl, by assumption, by assumption, by assumption⟩)
  case rest =>
  obtain ⟨rfl, bb9, _, _⟩ := hcut
  go_wp2_with fail
  go_ret
  exact ⟨rfl, bb9⟩
end Go.Proofs.Qxb6617094a
