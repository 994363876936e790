import Derived.Test.Qxb6616689aFlagMem
namespace Go.Proofs.Qxb6616689a
open Go.RowKit

set_option maxHeartbeats 2000000 in
theorem apart_any (a0 a1 a2 : Option Addr) (n0 n1 n2 c0 c1 c2 : Nat) (f0 f1 f2 : Nat → ByteArray) (w : World)
    (A0 : Arg w a0 n0 c0 f0) (A1 : Arg w a1 n1 c1 f1) (A2 : Arg w a2 n2 c2 f2) (e1 e2 : Bool) (he1 : eqB f0 f1 n0 n1 = e1) (he2 : eqB f0 f2 n0 n2 = e2) :
    Calls Try.prog 6 #[.slice a0 n0 c0, .slice a1 n1 c1, .slice a2 n2 c2] w fun e w' => e = .returned (.bool true) ∧ Below w.heap.size w w' := by
  have hm0 := A0.max
  have hm1 := A1.max
  have hm2 := A2.max
  have HE1 : Hid (eqB f0 f1 n0 n1 = e1) := he1
  have HE2 : Hid (eqB f0 f2 n0 n2 = e2) := he2
  clear he1 he2
  go_enter Try.func6, Try.ntmps6
  go_wp2_with fail
  refine (bytes20 a0 a1 a2 n0 n1 n2 c0 c1 c2 f0 f1 f2 w hm0 hm1 hm2 0 w.heap.size A0.row A1.row A2.row).mono ?_
  rintro e w' ⟨⟨r, rfl, hr⟩, rfl⟩
  cases r with
  | false =>
    go_wp2_with fail
    go_ret
    exact ⟨rfl, Below.refl _ _⟩
  | true =>
  obtain ⟨h0, h1, h2⟩ := hr rfl
  clear hr
  go_wp2_with fail
  refine (sizeok_any a0 a1 a2 n0 n1 n2 c0 c1 c2 f0 f1 f2 _ w h0 h1 h2 0 w.heap.size A0.row A1.row A2.row).mono ?_
  rintro e w' ⟨⟨r, rfl⟩, rfl⟩
  cases r with
  | false =>
    go_wp2_with fail
    go_ret
    exact ⟨rfl, Below.refl _ _⟩
  | true =>
  have A0' := A0.row
  have A1' := A1.row
  have A2' := A2.row
  have l0 := A0.nil
  have l1 := A1.nil
  have l2 := A2.nil
  clear A0 A1 A2
  go_wp2_with fail
  refine (clone_any a0 n0 c0 f0 w h0 0 _ A0' (Nat.le_refl _) l0).mono ?_
  rintro e w1 ⟨p0, d0, rfl, b1, k0, o0⟩
  have z1 := b1.size
  replace A1' := A1'.below b1 (Nat.le_refl _)
  replace A2' := A2'.below b1 (Nat.le_refl _)
  clear A0' l0
  go_wp2_with fail
  refine (clone_any a1 n1 c1 f1 w1 h1 0 _ A1' z1 l1).mono ?_
  rintro e w2 ⟨p1, d1, rfl, b2, k1, o1⟩
  have z2 := b2.size
  replace A2' := A2'.below b2 z1
  replace o0 := o0.below b2 (Nat.le_refl _)
  have bb2 := b1.trans (b2.mono z1)
  clear A1' l1 b1 b2
  go_wp2_with fail
  refine (clone_any a2 n2 c2 f2 w2 h2 0 _ A2' (by omega) l2).mono ?_
  rintro e w3 ⟨p2, d2, rfl, b3, k2, o2⟩
  have z3 := b3.size
  have S0 : Strs w3 p0 n0 f0 0 w3.heap.size := (o0.below b3 (by omega)).strs.widen (by omega) (by omega)
  have S1 : Strs w3 p1 n1 f1 0 w3.heap.size := (o1.below b3 (by omega)).strs.widen (by omega) (by omega)
  have S2 : Strs w3 p2 n2 f2 0 w3.heap.size := o2.strs.widen (by omega) (by omega)
  have bb3 := bb2.trans (b3.mono (by omega))
  clear A2' l2 b3 bb2 o0 o1 o2
  have F3 := Flags.laid (c0 := d0) (c1 := d1) (c2 := d2) S0 S1 S2
  go_wp2_with fail
  refine (clone_laid p0 n0 d0 f0 w3 _ h0 0 _ S0 (Nat.le_refl _) k0).mono ?_
  rintro e w4 ⟨q0, qc0, rfl, b4, z4, _, o0⟩
  have bb4 := bb3.trans (((below_laid w3 _).trans (b4.mono (Nat.le_succ _))).mono (by omega))
  replace F3 := F3.below b4 (Nat.le_refl _)
  clear b4 bb3 S0 S1 S2
  go_wp2_with fail
  refine (clone_any p1 n1 d1 f1 w4 h1 0 _ F3.s1 (by omega) k1).mono ?_
  rintro e w5 ⟨q1, qc1, rfl, b5, _, o1⟩
  have z5 := b5.size
  have bb5 := bb4.trans (b5.mono (by omega))
  replace o0 := o0.below b5 (Nat.le_refl _)
  replace F3 := F3.below b5 (by omega)
  clear b5 bb4
  go_wp2_with fail
  refine (clone_any p2 n2 d2 f2 w5 h2 0 _ F3.s2 (by omega) k2).mono ?_
  rintro e w6 ⟨q2, qc2, rfl, b6, _, o2⟩
  have z6 := b6.size
  have bb6 := bb5.trans (b6.mono (by omega))
  replace F3 := F3.below b6 (by omega)
  have S0 : Strs w6 q0 n0 f0 0 w6.heap.size := (o0.below b6 (by omega)).strs.widen (by omega) (by omega)
  have S1 : Strs w6 q1 n1 f1 0 w6.heap.size := (o1.below b6 (by omega)).strs.widen (by omega) (by omega)
  have S2 : Strs w6 q2 n2 f2 0 w6.heap.size := o2.strs.widen (by omega) (by omega)
  clear b6 bb5 o0 o1 o2
  have F6 := Flags.laid (c0 := qc0) (c1 := qc1) (c2 := qc2) S0 S1 S2
  go_wp2_with fail
  refine (clone_laid p1 n1 d1 f1 w6 _ h1 0 _ F3.s1 (by omega) k1).mono ?_
  rintro e w7 ⟨r0, rc0, rfl, b7, z7, _, o0⟩
  have bb7 := bb6.trans (((below_laid w6 _).trans (b7.mono (Nat.le_succ _))).mono (by omega))
  replace F3 := (F3.below (below_laid w6 (.cells #[.slice q0 n0 qc0, .slice q1 n1 qc1, .slice q2 n2 qc2] 40)) (by omega)).below b7 (by omega)
  replace F6 := F6.below b7 (Nat.le_refl _)
  clear b7 bb6 S0 S1 S2
  go_wp2_with fail
  refine (clone_any p0 n0 d0 f0 w7 h0 0 _ F3.s0 (by omega) k0).mono ?_
  rintro e w8 ⟨r1, rc1, rfl, b8, _, o1⟩
  have z8 := b8.size
  have bb8 := bb7.trans (b8.mono (by omega))
  replace o0 := o0.below b8 (Nat.le_refl _)
  replace F3 := F3.below b8 (by omega)
  replace F6 := F6.below b8 (by omega)
  clear b8 bb7
  go_wp2_with fail
  refine (clone_any p2 n2 d2 f2 w8 h2 0 _ F3.s2 (by omega) k2).mono ?_
  rintro e w9 ⟨r2, rc2, rfl, b9, _, o2⟩
  have z9 := b9.size
  have bb9 := bb8.trans (b9.mono (by omega))
  replace F3 := F3.below b9 (by omega)
  replace F6 := F6.below b9 (by omega)
  have S0 : Strs w9 r0 n1 f1 0 w9.heap.size := (o0.below b9 (by omega)).strs.widen (by omega) (by omega)
  have S1 : Strs w9 r1 n0 f0 0 w9.heap.size := (o1.below b9 (by omega)).strs.widen (by omega) (by omega)
  have S2 : Strs w9 r2 n2 f2 0 w9.heap.size := o2.strs.widen (by omega) (by omega)
  clear b9 bb8 o0 o1 o2
  have F9 := Flags.laid (c0 := rc0) (c1 := rc1) (c2 := rc2) S0 S1 S2
  go_wp2_with fail
  refine (clone_laid p2 n2 d2 f2 w9 _ h2 0 _ F3.s2 (by omega) k2).mono ?_
  rintro e w10 ⟨t0, tc0, rfl, b10, z10, _, o0⟩
  have bb10 := bb9.trans (((below_laid w9 _).trans (b10.mono (Nat.le_succ _))).mono (by omega))
  replace F3 := (F3.below (below_laid w9 (.cells #[.slice r0 n1 rc0, .slice r1 n0 rc1, .slice r2 n2 rc2] 40)) (by omega)).below b10 (by omega)
  replace F6 := (F6.below (below_laid w9 (.cells #[.slice r0 n1 rc0, .slice r1 n0 rc1, .slice r2 n2 rc2] 40)) (by omega)).below b10 (by omega)
  replace F9 := F9.below b10 (Nat.le_refl _)
  clear b10 bb9 S0 S1 S2
  go_wp2_with fail
  refine (clone_any p1 n1 d1 f1 w10 h1 0 _ F3.s1 (by omega) k1).mono ?_
  rintro e w11 ⟨t1, tc1, rfl, b11, _, o1⟩
  have z11 := b11.size
  have bb11 := bb10.trans (b11.mono (by omega))
  replace o0 := o0.below b11 (Nat.le_refl _)
  replace F3 := F3.below b11 (by omega)
  replace F6 := F6.below b11 (by omega)
  replace F9 := F9.below b11 (by omega)
  clear b11 bb10
  go_wp2_with fail
  refine (clone_any p0 n0 d0 f0 w11 h0 0 _ F3.s0 (by omega) k0).mono ?_
  rintro e w12 ⟨t2, tc2, rfl, b12, _, o2⟩
  have z12 := b12.size
  have bb12 := bb11.trans (b12.mono (by omega))
  replace F3 := F3.below b12 (by omega)
  replace F6 := F6.below b12 (by omega)
  replace F9 := F9.below b12 (by omega)
  have S0 : Strs w12 t0 n2 f2 0 w12.heap.size := (o0.below b12 (by omega)).strs.widen (by omega) (by omega)
  have S1 : Strs w12 t1 n1 f1 0 w12.heap.size := (o1.below b12 (by omega)).strs.widen (by omega) (by omega)
  have S2 : Strs w12 t2 n0 f0 0 w12.heap.size := o2.strs.widen (by omega) (by omega)
  clear b12 bb11 o0 o1 o2
  have F12 := Flags.laid (c0 := tc0) (c1 := tc1) (c2 := tc2) S0 S1 S2
  have y30 := F3.x0
  have y31 := F3.x1
  have y32 := F3.x2
  have y60 := F6.x0
  have y61 := F6.x1
  have y62 := F6.x2
  have u2 : w3.heap.size < w12.heap.size := by omega
  have u3 : w6.heap.size < w12.heap.size := by omega
  have HZ : Hid ((w12.alloc (.cells #[.slice t0 n2 tc0, .slice t1 n1 tc1, .slice t2 n0 tc2] 40)).heap.size = w12.heap.size + 1) := World.size_alloc _ _
  have bl : ∀ x, Below w12.heap.size w12 (World.drewN (w12.alloc (.cells #[.slice t0 n2 tc0, .slice t1 n1 tc1, .slice t2 n0 tc2] 40)) x) := fun x => bdrew (below_laid w12 _) x
  have bl' : ∀ x, Below (w12.heap.size + 1) (w12.alloc (.cells #[.slice t0 n2 tc0, .slice t1 n1 tc1, .slice t2 n0 tc2] 40)) (World.drewN (w12.alloc (.cells #[.slice t0 n2 tc0, .slice t1 n1 tc1, .slice t2 n0 tc2] 40)) x) := fun x => bdrew (Below.refl _ _) x
  have BB := bb12
  clear bb12 S0 S1 S2 k0 k1 k2
  go_wp2_with fail
  refine (same_any p0 p1 n0 d0 n1 d1 f0 f1 _ h0 h1 0 _ 0 _ (F3.s0.below (bl 0) (by omega)) (F3.s1.below (bl 0) (by omega))).mono ?_
  rintro e w13 ⟨rfl, x1, rfl⟩
  rw [HE1.out]
  go_wp2_with fail
  refine (same_any p0 p2 n0 d0 n2 d2 f0 f2 _ h0 h2 0 _ 0 _ (F3.s0.below (bl x1) (by omega)) (F3.s2.below (bl x1) (by omega))).mono ?_
  rintro e w14 ⟨rfl, x2, rfl⟩
  rw [HE2.out]
  have G3 := F3.below (bl (x1 + x2)) (by omega)
  have G6 := F6.below (bl (x1 + x2)) (by omega)
  have G9 := F9.below (bl (x1 + x2)) (by omega)
  have G12 := F12.below (bl' (x1 + x2)) (Nat.le_refl _)
  have GB := BB.trans ((bl (x1 + x2)).mono (by omega))
  clear F3 F6 F9 F12 BB bl bl'
  have HZ' : Hid ((World.drewN (w12.alloc (.cells #[.slice t0 n2 tc0, .slice t1 n1 tc1, .slice t2 n0 tc2] 40)) (x1 + x2)).heap.size = w12.heap.size + 1) := HZ.out
  go_wp2_with fail
  refine (zflags_of true G3 G6 (by rw [HZ'.out]; omega) (by rw [HZ'.out]; omega) h0 h1 h2 h0 h1 h2 (by rw [eqB_self, eqB_self, eqB_self]; rfl)).mono ?_
  rintro e w15 ⟨rfl, b15⟩
  have z15 := b15.size
  rw [HZ'.out] at b15 z15
  replace G3 := G3.below b15 (by omega)
  replace G9 := G9.below b15 (by omega)
  replace G12 := G12.below b15 (Nat.le_refl _)
  replace GB := GB.trans (b15.mono (by omega))
  clear G6 b15 y30 y31 y32 y60 y61 y62 HZ HZ'
  have y30 := G3.x0
  have y31 := G3.x1
  have y32 := G3.x2
  have y90 := G9.x0
  have y91 := G9.x1
  have y92 := G9.x2
  go_wp2_with fail
  refine (zflags_of e1 G3 G9 (by omega) (by omega) h0 h1 h2 h1 h0 h2 (by rw [eqB_symm f1 f0, eqB_self, HE1.out]; cases e1 <;> rfl)).mono ?_
  rintro e w16 ⟨rfl, b16⟩
  have z16 := b16.size
  replace G3 := G3.below b16 (by omega)
  replace G9 := G9.below b16 (by omega)
  replace G12 := G12.below b16 (by omega)
  replace GB := GB.trans (b16.mono (by omega))
  clear b16 y30 y31 y32 y90 y91 y92
  have y30 := G9.x0
  have y31 := G9.x1
  have y32 := G9.x2
  have y90 := G3.x0
  have y91 := G3.x1
  have y92 := G3.x2
  go_wp2_with fail
  refine (zflags_of e1 G9 G3 (by omega) (by omega) h1 h0 h2 h0 h1 h2 (by rw [eqB_symm f1 f0, eqB_self, HE1.out]; cases e1 <;> rfl)).mono ?_
  rintro e w17 ⟨rfl, b17⟩
  have z17 := b17.size
  replace G3 := G3.below b17 (by omega)
  replace G9 := G9.below b17 (by omega)
  replace G12 := G12.below b17 (by omega)
  replace GB := GB.trans (b17.mono (by omega))
  clear b17 y30 y31 y32 y90 y91 y92
  have y30 := G3.x0
  have y31 := G3.x1
  have y32 := G3.x2
  have y90 := G12.x0
  have y91 := G12.x1
  have y92 := G12.x2
  go_wp2_with fail
  refine (zflags_of e2 G3 G12 (by omega) (by omega) h0 h1 h2 h2 h1 h0 (by rw [eqB_symm f2 f0, eqB_self, HE2.out]; cases e2 <;> rfl)).mono ?_
  rintro e w18 ⟨rfl, b18⟩
  have z18 := b18.size
  replace G3 := G3.below b18 (by omega)
  replace G9 := G9.below b18 (by omega)
  replace G12 := G12.below b18 (by omega)
  replace GB := GB.trans (b18.mono (by omega))
  clear b18 y30 y31 y32 y90 y91 y92
  have y30 := G12.x0
  have y31 := G12.x1
  have y32 := G12.x2
  have y90 := G3.x0
  have y91 := G3.x1
  have y92 := G3.x2
  go_wp2_with fail
  refine (zflags_of e2 G12 G3 (by omega) (by omega) h2 h1 h0 h0 h1 h2 (by rw [eqB_symm f2 f0, eqB_self, HE2.out]; cases e2 <;> rfl)).mono ?_
  rintro e w19 ⟨rfl, b19⟩
  have z19 := b19.size
  replace G3 := G3.below b19 (by omega)
  replace G9 := G9.below b19 (by omega)
  replace G12 := G12.below b19 (by omega)
  replace GB := GB.trans (b19.mono (by omega))
  clear b19 y30 y31 y32 y90 y91 y92
  go_wp2_with fail
  go_ret
  exact ⟨rfl, GB⟩
end Go.Proofs.Qxb6616689a
