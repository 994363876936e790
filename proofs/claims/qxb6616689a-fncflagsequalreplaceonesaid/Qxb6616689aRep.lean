import Derived.Test.Qxb6616689aFlagMem
namespace Go.Proofs.Qxb6616689a
open Go.RowKit
set_option maxHeartbeats 1000000 in
theorem rep_early (a0 a1 a2 : Option Addr) (n0 n1 n2 c0 c1 c2 : Nat) (f0 f1 f2 : Nat → ByteArray) (q p : Int) (s : ByteArray) (w : World)
    (A0 : Arg w a0 n0 c0 f0) (A1 : Arg w a1 n1 c1 f1) (A2 : Arg w a2 n2 c2 f2)
    (hq : (q < 0 ∨ 2 < q) ∨ (q = 0 ∧ (p < 0 ∨ (n0 : Int) ≤ p)) ∨ (q = 1 ∧ (p < 0 ∨ (n1 : Int) ≤ p)) ∨ (q = 2 ∧ (p < 0 ∨ (n2 : Int) ≤ p))) :
    Calls Try.prog 5 #[.slice a0 n0 c0, .slice a1 n1 c1, .slice a2 n2 c2, .int .i64 q, .int .i64 p, .string s] w fun e w' => e = .returned (.bool true) ∧ Below w.heap.size w w' := by
  have hm0 := A0.max
  have hm1 := A1.max
  have hm2 := A2.max
  rcases hq with (hq | hq) | ⟨rfl, (hq | hq)⟩ | ⟨rfl, (hq | hq)⟩ | ⟨rfl, (hq | hq)⟩
  all_goals
    go_enter Try.func5, Try.ntmps5
    go_wp2_with fail
    refine (bytes16 a0 a1 a2 n0 n1 n2 c0 c1 c2 f0 f1 f2 _ _ _ w hm0 hm1 hm2 0 w.heap.size A0.row A1.row A2.row).mono ?_
    rintro e w' ⟨⟨r, rfl, hr⟩, rfl⟩
    cases r with
    | false =>
      go_wp2_with fail
      go_ret
      exact ⟨rfl, Below.refl _ _⟩
    | true =>
      obtain ⟨h0, h1, h2⟩ := hr rfl
      clear hr
      go_wp2_with fail
      refine (sizeok_any a0 a1 a2 n0 n1 n2 c0 c1 c2 f0 f1 f2 _ w h0 h1 h2 0 w.heap.size A0.row A1.row A2.row).mono ?_
      rintro e w' ⟨⟨r, rfl⟩, rfl⟩
      cases r with
      | false =>
        go_wp2_with fail
        go_ret
        exact ⟨rfl, Below.refl _ _⟩
      | true =>
        go_wp2_with fail
        go_ret
        exact ⟨rfl, Below.refl _ _⟩

set_option maxHeartbeats 2000000 in
theorem rep_q0 (a0 a1 a2 : Option Addr) (n0 n1 n2 c0 c1 c2 m : Nat) (f0 f1 f2 : Nat → ByteArray) (s : ByteArray) (w : World)
    (A0 : Arg w a0 n0 c0 f0) (A1 : Arg w a1 n1 c1 f1) (A2 : Arg w a2 n2 c2 f2) (hm : m < n0) (want : Bool) (hw : ((f0 m).toList == s.toList) = want) :
    Calls Try.prog 5 #[.slice a0 n0 c0, .slice a1 n1 c1, .slice a2 n2 c2, .int .i64 0, .int .i64 m, .string s] w fun e w' => e = .returned (.bool true) ∧ Below w.heap.size w w' := by
  have hm0 := A0.max
  have hm1 := A1.max
  have hm2 := A2.max
  go_enter Try.func5, Try.ntmps5
  go_wp2_with fail
  refine (bytes16 a0 a1 a2 n0 n1 n2 c0 c1 c2 f0 f1 f2 _ _ _ w hm0 hm1 hm2 0 w.heap.size A0.row A1.row A2.row).mono ?_
  rintro e w' ⟨⟨r, rfl, hr⟩, rfl⟩
  cases r with
  | false =>
    go_wp2_with fail
    go_ret
    exact ⟨rfl, Below.refl _ _⟩
  | true =>
  obtain ⟨h0, h1, h2⟩ := hr rfl
  clear hr
  go_wp2_with fail
  refine (sizeok_any a0 a1 a2 n0 n1 n2 c0 c1 c2 f0 f1 f2 _ w h0 h1 h2 0 w.heap.size A0.row A1.row A2.row).mono ?_
  rintro e w' ⟨⟨r, rfl⟩, rfl⟩
  cases r with
  | false =>
    go_wp2_with fail
    go_ret
    exact ⟨rfl, Below.refl _ _⟩
  | true =>
  have A0' := A0.row
  have A1' := A1.row
  have A2' := A2.row
  have l0 := A0.nil
  have l1 := A1.nil
  have l2 := A2.nil
  clear A0 A1 A2
  have HW : Hid (((f0 m).toList == s.toList) = want) := hw
  clear hw
  go_wp2_with fail
  refine (clone_any a0 n0 c0 f0 w h0 0 _ A0' (Nat.le_refl _) l0).mono ?_
  rintro e w1 ⟨p0, d0, rfl, b1, k0, o0⟩
  have z1 := b1.size
  replace A1' := A1'.below b1 (Nat.le_refl _)
  replace A2' := A2'.below b1 (Nat.le_refl _)
  clear A0' l0
  go_wp2_with fail
  refine (clone_any a1 n1 c1 f1 w1 h1 0 _ A1' z1 l1).mono ?_
  rintro e w2 ⟨p1, d1, rfl, b2, k1, o1⟩
  have z2 := b2.size
  replace A2' := A2'.below b2 z1
  replace o0 := o0.below b2 (Nat.le_refl _)
  have bb2 := b1.trans (b2.mono z1)
  clear A1' l1 b1 b2
  go_wp2_with fail
  refine (clone_any a2 n2 c2 f2 w2 h2 0 _ A2' (by omega) l2).mono ?_
  rintro e w3 ⟨p2, d2, rfl, b3, k2, o2⟩
  have z3 := b3.size
  have S0 : Strs w3 p0 n0 f0 0 w3.heap.size := (o0.below b3 (by omega)).strs.widen (by omega) (by omega)
  have S1 : Strs w3 p1 n1 f1 0 w3.heap.size := (o1.below b3 (by omega)).strs.widen (by omega) (by omega)
  have S2 : Strs w3 p2 n2 f2 0 w3.heap.size := o2.strs.widen (by omega) (by omega)
  have bb3 := bb2.trans (b3.mono (by omega))
  clear A2' l2 b3 bb2 o0 o1 o2
  have F3 := Flags.laid (c0 := d0) (c1 := d1) (c2 := d2) S0 S1 S2
  go_wp2_with fail
  refine (clone_laid p0 n0 d0 f0 w3 _ h0 0 _ S0 (Nat.le_refl _) k0).mono ?_
  rintro e w4 ⟨q0, e0, rfl, b4, z4, _, o0⟩
  have bb4 := bb3.trans (((below_laid w3 _).trans (b4.mono (Nat.le_succ _))).mono (by omega))
  replace F3 := F3.below b4 (Nat.le_refl _)
  clear b4 bb3 S0 S1 S2
  go_wp2_with fail
  refine (clone_any p1 n1 d1 f1 w4 h1 0 _ F3.s1 z4 k1).mono ?_
  rintro e w5 ⟨q1, e1, rfl, b5, _, o1⟩
  have z5 := b5.size
  have bb5 := bb4.trans (b5.mono (by omega))
  replace F3 := F3.below b5 (by omega)
  replace o0 := o0.below b5 (Nat.le_refl _)
  clear b5 bb4
  go_wp2_with fail
  refine (clone_any p2 n2 d2 f2 w5 h2 0 _ F3.s2 (by omega) k2).mono ?_
  rintro e w6 ⟨q2, e2, rfl, b6, _, o2⟩
  have z6 := b6.size
  have bb6 := bb5.trans (b6.mono (by omega))
  replace F3 := F3.below b6 (by omega)
  have S0 : Strs w6 q0 n0 f0 0 w6.heap.size := (o0.below b6 (by omega)).strs.widen (by omega) (by omega)
  have S1 : Strs w6 q1 n1 f1 0 w6.heap.size := (o1.below b6 (by omega)).strs.widen (by omega) (by omega)
  have S2 : Strs w6 q2 n2 f2 0 w6.heap.size := o2.strs.widen (by omega) (by omega)
  clear b6 bb5 o0 o1 o2
  have F6 := Flags.laid (c0 := e0) (c1 := e1) (c2 := e2) S0 S1 S2
  go_wp2_with fail
  refine (clone_laid p0 n0 d0 f0 w6 _ h0 0 _ F3.s0 (by omega) k0).mono ?_
  rintro e w7 ⟨r0, i0, rfl, b7, z7, _, o0⟩
  have bb7 := bb6.trans (((below_laid w6 _).trans (b7.mono (Nat.le_succ _))).mono (by omega))
  replace F6 := F6.below b7 (Nat.le_refl _)
  replace F3 := (F3.below (below_laid w6 (.cells #[.slice q0 n0 e0, .slice q1 n1 e1, .slice q2 n2 e2] 40)) (by omega)).below b7 (by omega)
  clear b7 bb6 S0 S1 S2
  go_wp2_with fail
  refine (clone_any p1 n1 d1 f1 w7 h1 0 _ F3.s1 (by omega) k1).mono ?_
  rintro e w8 ⟨r1, i1, rfl, b8, _, o1⟩
  have z8 := b8.size
  have bb8 := bb7.trans (b8.mono (by omega))
  replace F3 := F3.below b8 (by omega)
  replace F6 := F6.below b8 (by omega)
  replace o0 := o0.below b8 (Nat.le_refl _)
  clear b8 bb7
  go_wp2_with fail
  refine (clone_any p2 n2 d2 f2 w8 h2 0 _ F3.s2 (by omega) k2).mono ?_
  rintro e w9 ⟨r2, i2, rfl, b9, _, o2⟩
  have z9 := b9.size
  have bb9 := bb8.trans (b9.mono (by omega))
  replace F3 := F3.below b9 (by omega)
  replace F6 := F6.below b9 (by omega)
  replace o0 := o0.below b9 (by omega)
  replace o1 := o1.below b9 (by omega)
  clear b9 bb8 k0 k1 k2
  obtain ⟨bg, rfl, bg1, bg2, hbg⟩ := o0 (by omega)
  obtain ⟨cg, fg⟩ := hbg m hm
  clear hbg
  have hs0 : Strs ((w9.setCell ⟨bg, m, none⟩ (.string s)).alloc (.cells #[.slice (some ⟨bg, 0, none⟩) n0 i0, .slice r1 n1 i1, .slice r2 n2 i2] 40)) (some ⟨bg, 0, none⟩) n0 (upd f0 m s) 0 w9.heap.size := (o0.upd hm (by omega)).widen (Nat.zero_le _) (by omega)
  have hs1 : Strs ((w9.setCell ⟨bg, m, none⟩ (.string s)).alloc (.cells #[.slice (some ⟨bg, 0, none⟩) n0 i0, .slice r1 n1 i1, .slice r2 n2 i2] 40)) r1 n1 f1 0 w9.heap.size := (o1.strs.setOther (.inr (by omega)) (by omega)).widen (Nat.zero_le _) (by omega)
  have hs2 : Strs ((w9.setCell ⟨bg, m, none⟩ (.string s)).alloc (.cells #[.slice (some ⟨bg, 0, none⟩) n0 i0, .slice r1 n1 i1, .slice r2 n2 i2] 40)) r2 n2 f2 0 w9.heap.size := (o2.strs.setOther (.inr (by omega)) (by omega)).widen (Nat.zero_le _) (by omega)
  have F9 : Flags ((w9.setCell ⟨bg, m, none⟩ (.string s)).alloc (.cells #[.slice (some ⟨bg, 0, none⟩) n0 i0, .slice r1 n1 i1, .slice r2 n2 i2] 40)) (w9.heap.size + 1) w9.heap.size (some ⟨bg, 0, none⟩) r1 r2 n0 n1 n2 i0 i1 i2 (upd f0 m s) f1 f2 :=
    ⟨Nat.lt_succ_self _, by rw [World.cell?_alloc_at _ _ _ _ (by simp)]; rfl, by rw [World.cell?_alloc_at _ _ _ _ (by simp)]; rfl, by rw [World.cell?_alloc_at _ _ _ _ (by simp)]; rfl, hs0.widen (Nat.le_refl _) (Nat.le_succ _), hs1.widen (Nat.le_refl _) (Nat.le_succ _), hs2.widen (Nat.le_refl _) (Nat.le_succ _)⟩
  have G3 : Flags ((w9.setCell ⟨bg, m, none⟩ (.string s)).alloc (.cells #[.slice (some ⟨bg, 0, none⟩) n0 i0, .slice r1 n1 i1, .slice r2 n2 i2] 40)) (w3.heap.size + 1) w3.heap.size p0 p1 p2 n0 n1 n2 d0 d1 d2 f0 f1 f2 := F3.setOther (by omega) (by omega)
  have G6 : Flags ((w9.setCell ⟨bg, m, none⟩ (.string s)).alloc (.cells #[.slice (some ⟨bg, 0, none⟩) n0 i0, .slice r1 n1 i1, .slice r2 n2 i2] 40)) (w6.heap.size + 1) w6.heap.size q0 q1 q2 n0 n1 n2 e0 e1 e2 f0 f1 f2 := F6.setOther (by omega) (by omega)
  have BB : Below w.heap.size w ((w9.setCell ⟨bg, m, none⟩ (.string s)).alloc (.cells #[.slice (some ⟨bg, 0, none⟩) n0 i0, .slice r1 n1 i1, .slice r2 n2 i2] 40)) := (bb9.setCell (p := ⟨bg, m, none⟩) (by show w.heap.size ≤ bg; omega) _).alloc (by rw [World.size_setCell]; omega) _
  have y30 := F3.x0
  have y31 := F3.x1
  have y32 := F3.x2
  have y60 := F6.x0
  have y61 := F6.x1
  have y62 := F6.x2
  have u1 : bg < w9.heap.size := by omega
  have u2 : w3.heap.size < w9.heap.size := by omega
  have u3 : w6.heap.size < w9.heap.size := by omega
  clear hs0 hs1 hs2 o0 o1 o2 F3 F6 bb9
  have hw := HW.out
  have hsz : ((w9.setCell ⟨bg, m, none⟩ (.string s)).alloc (.cells #[.slice (some ⟨bg, 0, none⟩) n0 i0, .slice r1 n1 i1, .slice r2 n2 i2] 40)).heap.size = w9.heap.size + 1 := by rw [World.size_alloc, World.size_setCell]
  have HZ := hsz
  clear hsz
  have HZ' : Hid (((w9.setCell ⟨bg, m, none⟩ (.string s)).alloc (.cells #[.slice (some ⟨bg, 0, none⟩) n0 i0, .slice r1 n1 i1, .slice r2 n2 i2] 40)).heap.size = w9.heap.size + 1) := HZ
  clear HZ
  go_wp2_with fail
  refine (zflags_of true G3 G6 (by rw [HZ'.out]; omega) (by rw [HZ'.out]; omega) h0 h1 h2 h0 h1 h2 (by rw [eqB_self, eqB_self, eqB_self]; rfl)).mono ?_
  rintro e w10 ⟨rfl, b10⟩
  have z10 := b10.size
  rw [HZ'.out] at b10 z10
  replace G3 := G3.below b10 (by omega)
  replace F9 := F9.below b10 (Nat.le_refl _)
  replace BB := BB.trans (b10.mono (by omega))
  clear G6 b10 y30 y31 y32 y60 y61 y62 HZ'
  have y30 := G3.x0
  have y31 := G3.x1
  have y32 := G3.x2
  have y90 := F9.x0
  have y91 := F9.x1
  have y92 := F9.x2
  go_wp2_with fail
  refine (zflags_of want G3 F9 (by omega) (by omega) h0 h1 h2 h0 h1 h2 (by rw [eqB_upd hm, eqB_self, eqB_self, hw]; cases want <;> rfl)).mono ?_
  rintro e w11 ⟨rfl, b11⟩
  have z11 := b11.size
  replace G3 := G3.below b11 (by omega)
  replace F9 := F9.below b11 (by omega)
  replace BB := BB.trans (b11.mono (by omega))
  clear b11 y30 y31 y32 y90 y91 y92
  have y30 := G3.x0
  have y31 := G3.x1
  have y32 := G3.x2
  have y90 := F9.x0
  have y91 := F9.x1
  have y92 := F9.x2
  go_wp2_with fail
  refine (zflags_of want F9 G3 (by omega) (by omega) h0 h1 h2 h0 h1 h2 (by rw [eqB_symm (upd f0 m s) f0, eqB_upd hm, eqB_self, eqB_self, hw]; cases want <;> rfl)).mono ?_
  rintro e w12 ⟨rfl, b12⟩
  replace BB := BB.trans (b12.mono (by omega))
  clear b12 y30 y31 y32 y90 y91 y92
  go_wp2_with fail
  go_ret
  exact ⟨rfl, BB⟩

set_option maxHeartbeats 2000000 in
theorem rep_q1 (a0 a1 a2 : Option Addr) (n0 n1 n2 c0 c1 c2 m : Nat) (f0 f1 f2 : Nat → ByteArray) (s : ByteArray) (w : World)
    (A0 : Arg w a0 n0 c0 f0) (A1 : Arg w a1 n1 c1 f1) (A2 : Arg w a2 n2 c2 f2) (hm : m < n1) (want : Bool) (hw : ((f1 m).toList == s.toList) = want) :
    Calls Try.prog 5 #[.slice a0 n0 c0, .slice a1 n1 c1, .slice a2 n2 c2, .int .i64 1, .int .i64 m, .string s] w fun e w' => e = .returned (.bool true) ∧ Below w.heap.size w w' := by
  have hm0 := A0.max
  have hm1 := A1.max
  have hm2 := A2.max
  go_enter Try.func5, Try.ntmps5
  go_wp2_with fail
  refine (bytes16 a0 a1 a2 n0 n1 n2 c0 c1 c2 f0 f1 f2 _ _ _ w hm0 hm1 hm2 0 w.heap.size A0.row A1.row A2.row).mono ?_
  rintro e w' ⟨⟨r, rfl, hr⟩, rfl⟩
  cases r with
  | false =>
    go_wp2_with fail
    go_ret
    exact ⟨rfl, Below.refl _ _⟩
  | true =>
  obtain ⟨h0, h1, h2⟩ := hr rfl
  clear hr
  go_wp2_with fail
  refine (sizeok_any a0 a1 a2 n0 n1 n2 c0 c1 c2 f0 f1 f2 _ w h0 h1 h2 0 w.heap.size A0.row A1.row A2.row).mono ?_
  rintro e w' ⟨⟨r, rfl⟩, rfl⟩
  cases r with
  | false =>
    go_wp2_with fail
    go_ret
    exact ⟨rfl, Below.refl _ _⟩
  | true =>
  have A0' := A0.row
  have A1' := A1.row
  have A2' := A2.row
  have l0 := A0.nil
  have l1 := A1.nil
  have l2 := A2.nil
  clear A0 A1 A2
  have HW : Hid (((f1 m).toList == s.toList) = want) := hw
  clear hw
  go_wp2_with fail
  refine (clone_any a0 n0 c0 f0 w h0 0 _ A0' (Nat.le_refl _) l0).mono ?_
  rintro e w1 ⟨p0, d0, rfl, b1, k0, o0⟩
  have z1 := b1.size
  replace A1' := A1'.below b1 (Nat.le_refl _)
  replace A2' := A2'.below b1 (Nat.le_refl _)
  clear A0' l0
  go_wp2_with fail
  refine (clone_any a1 n1 c1 f1 w1 h1 0 _ A1' z1 l1).mono ?_
  rintro e w2 ⟨p1, d1, rfl, b2, k1, o1⟩
  have z2 := b2.size
  replace A2' := A2'.below b2 z1
  replace o0 := o0.below b2 (Nat.le_refl _)
  have bb2 := b1.trans (b2.mono z1)
  clear A1' l1 b1 b2
  go_wp2_with fail
  refine (clone_any a2 n2 c2 f2 w2 h2 0 _ A2' (by omega) l2).mono ?_
  rintro e w3 ⟨p2, d2, rfl, b3, k2, o2⟩
  have z3 := b3.size
  have S0 : Strs w3 p0 n0 f0 0 w3.heap.size := (o0.below b3 (by omega)).strs.widen (by omega) (by omega)
  have S1 : Strs w3 p1 n1 f1 0 w3.heap.size := (o1.below b3 (by omega)).strs.widen (by omega) (by omega)
  have S2 : Strs w3 p2 n2 f2 0 w3.heap.size := o2.strs.widen (by omega) (by omega)
  have bb3 := bb2.trans (b3.mono (by omega))
  clear A2' l2 b3 bb2 o0 o1 o2
  have F3 := Flags.laid (c0 := d0) (c1 := d1) (c2 := d2) S0 S1 S2
  go_wp2_with fail
  refine (clone_laid p0 n0 d0 f0 w3 _ h0 0 _ S0 (Nat.le_refl _) k0).mono ?_
  rintro e w4 ⟨q0, e0, rfl, b4, z4, _, o0⟩
  have bb4 := bb3.trans (((below_laid w3 _).trans (b4.mono (Nat.le_succ _))).mono (by omega))
  replace F3 := F3.below b4 (Nat.le_refl _)
  clear b4 bb3 S0 S1 S2
  go_wp2_with fail
  refine (clone_any p1 n1 d1 f1 w4 h1 0 _ F3.s1 z4 k1).mono ?_
  rintro e w5 ⟨q1, e1, rfl, b5, _, o1⟩
  have z5 := b5.size
  have bb5 := bb4.trans (b5.mono (by omega))
  replace F3 := F3.below b5 (by omega)
  replace o0 := o0.below b5 (Nat.le_refl _)
  clear b5 bb4
  go_wp2_with fail
  refine (clone_any p2 n2 d2 f2 w5 h2 0 _ F3.s2 (by omega) k2).mono ?_
  rintro e w6 ⟨q2, e2, rfl, b6, _, o2⟩
  have z6 := b6.size
  have bb6 := bb5.trans (b6.mono (by omega))
  replace F3 := F3.below b6 (by omega)
  have S0 : Strs w6 q0 n0 f0 0 w6.heap.size := (o0.below b6 (by omega)).strs.widen (by omega) (by omega)
  have S1 : Strs w6 q1 n1 f1 0 w6.heap.size := (o1.below b6 (by omega)).strs.widen (by omega) (by omega)
  have S2 : Strs w6 q2 n2 f2 0 w6.heap.size := o2.strs.widen (by omega) (by omega)
  clear b6 bb5 o0 o1 o2
  have F6 := Flags.laid (c0 := e0) (c1 := e1) (c2 := e2) S0 S1 S2
  go_wp2_with fail
  refine (clone_laid p0 n0 d0 f0 w6 _ h0 0 _ F3.s0 (by omega) k0).mono ?_
  rintro e w7 ⟨r0, i0, rfl, b7, z7, _, o0⟩
  have bb7 := bb6.trans (((below_laid w6 _).trans (b7.mono (Nat.le_succ _))).mono (by omega))
  replace F6 := F6.below b7 (Nat.le_refl _)
  replace F3 := (F3.below (below_laid w6 (.cells #[.slice q0 n0 e0, .slice q1 n1 e1, .slice q2 n2 e2] 40)) (by omega)).below b7 (by omega)
  clear b7 bb6 S0 S1 S2
  go_wp2_with fail
  refine (clone_any p1 n1 d1 f1 w7 h1 0 _ F3.s1 (by omega) k1).mono ?_
  rintro e w8 ⟨r1, i1, rfl, b8, _, o1⟩
  have z8 := b8.size
  have bb8 := bb7.trans (b8.mono (by omega))
  replace F3 := F3.below b8 (by omega)
  replace F6 := F6.below b8 (by omega)
  replace o0 := o0.below b8 (Nat.le_refl _)
  clear b8 bb7
  go_wp2_with fail
  refine (clone_any p2 n2 d2 f2 w8 h2 0 _ F3.s2 (by omega) k2).mono ?_
  rintro e w9 ⟨r2, i2, rfl, b9, _, o2⟩
  have z9 := b9.size
  have bb9 := bb8.trans (b9.mono (by omega))
  replace F3 := F3.below b9 (by omega)
  replace F6 := F6.below b9 (by omega)
  replace o0 := o0.below b9 (by omega)
  replace o1 := o1.below b9 (by omega)
  clear b9 bb8 k0 k1 k2
  obtain ⟨bg, rfl, bg1, bg2, hbg⟩ := o1 (by omega)
  obtain ⟨cg, fg⟩ := hbg m hm
  clear hbg
  have hs0 : Strs ((w9.setCell ⟨bg, m, none⟩ (.string s)).alloc (.cells #[.slice r0 n0 i0, .slice (some ⟨bg, 0, none⟩) n1 i1, .slice r2 n2 i2] 40)) r0 n0 f0 0 w9.heap.size := (o0.strs.setOther (.inl (by omega)) (by omega)).widen (Nat.zero_le _) (by omega)
  have hs1 : Strs ((w9.setCell ⟨bg, m, none⟩ (.string s)).alloc (.cells #[.slice r0 n0 i0, .slice (some ⟨bg, 0, none⟩) n1 i1, .slice r2 n2 i2] 40)) (some ⟨bg, 0, none⟩) n1 (upd f1 m s) 0 w9.heap.size := (o1.upd hm (by omega)).widen (Nat.zero_le _) (by omega)
  have hs2 : Strs ((w9.setCell ⟨bg, m, none⟩ (.string s)).alloc (.cells #[.slice r0 n0 i0, .slice (some ⟨bg, 0, none⟩) n1 i1, .slice r2 n2 i2] 40)) r2 n2 f2 0 w9.heap.size := (o2.strs.setOther (.inr (by omega)) (by omega)).widen (Nat.zero_le _) (by omega)
  have F9 : Flags ((w9.setCell ⟨bg, m, none⟩ (.string s)).alloc (.cells #[.slice r0 n0 i0, .slice (some ⟨bg, 0, none⟩) n1 i1, .slice r2 n2 i2] 40)) (w9.heap.size + 1) w9.heap.size r0 (some ⟨bg, 0, none⟩) r2 n0 n1 n2 i0 i1 i2 f0 (upd f1 m s) f2 :=
    ⟨Nat.lt_succ_self _, by rw [World.cell?_alloc_at _ _ _ _ (by simp)]; rfl, by rw [World.cell?_alloc_at _ _ _ _ (by simp)]; rfl, by rw [World.cell?_alloc_at _ _ _ _ (by simp)]; rfl, hs0.widen (Nat.le_refl _) (Nat.le_succ _), hs1.widen (Nat.le_refl _) (Nat.le_succ _), hs2.widen (Nat.le_refl _) (Nat.le_succ _)⟩
  have G3 : Flags ((w9.setCell ⟨bg, m, none⟩ (.string s)).alloc (.cells #[.slice r0 n0 i0, .slice (some ⟨bg, 0, none⟩) n1 i1, .slice r2 n2 i2] 40)) (w3.heap.size + 1) w3.heap.size p0 p1 p2 n0 n1 n2 d0 d1 d2 f0 f1 f2 := F3.setOther (by omega) (by omega)
  have G6 : Flags ((w9.setCell ⟨bg, m, none⟩ (.string s)).alloc (.cells #[.slice r0 n0 i0, .slice (some ⟨bg, 0, none⟩) n1 i1, .slice r2 n2 i2] 40)) (w6.heap.size + 1) w6.heap.size q0 q1 q2 n0 n1 n2 e0 e1 e2 f0 f1 f2 := F6.setOther (by omega) (by omega)
  have BB : Below w.heap.size w ((w9.setCell ⟨bg, m, none⟩ (.string s)).alloc (.cells #[.slice r0 n0 i0, .slice (some ⟨bg, 0, none⟩) n1 i1, .slice r2 n2 i2] 40)) := (bb9.setCell (p := ⟨bg, m, none⟩) (by show w.heap.size ≤ bg; omega) _).alloc (by rw [World.size_setCell]; omega) _
  have y30 := F3.x0
  have y31 := F3.x1
  have y32 := F3.x2
  have y60 := F6.x0
  have y61 := F6.x1
  have y62 := F6.x2
  have u1 : bg < w9.heap.size := by omega
  have u2 : w3.heap.size < w9.heap.size := by omega
  have u3 : w6.heap.size < w9.heap.size := by omega
  clear hs0 hs1 hs2 o0 o1 o2 F3 F6 bb9
  have hw := HW.out
  have hsz : ((w9.setCell ⟨bg, m, none⟩ (.string s)).alloc (.cells #[.slice r0 n0 i0, .slice (some ⟨bg, 0, none⟩) n1 i1, .slice r2 n2 i2] 40)).heap.size = w9.heap.size + 1 := by rw [World.size_alloc, World.size_setCell]
  have HZ := hsz
  clear hsz
  have HZ' : Hid (((w9.setCell ⟨bg, m, none⟩ (.string s)).alloc (.cells #[.slice r0 n0 i0, .slice (some ⟨bg, 0, none⟩) n1 i1, .slice r2 n2 i2] 40)).heap.size = w9.heap.size + 1) := HZ
  clear HZ
  go_wp2_with fail
  refine (zflags_of true G3 G6 (by rw [HZ'.out]; omega) (by rw [HZ'.out]; omega) h0 h1 h2 h0 h1 h2 (by rw [eqB_self, eqB_self, eqB_self]; rfl)).mono ?_
  rintro e w10 ⟨rfl, b10⟩
  have z10 := b10.size
  rw [HZ'.out] at b10 z10
  replace G3 := G3.below b10 (by omega)
  replace F9 := F9.below b10 (Nat.le_refl _)
  replace BB := BB.trans (b10.mono (by omega))
  clear G6 b10 y30 y31 y32 y60 y61 y62 HZ'
  have y30 := G3.x0
  have y31 := G3.x1
  have y32 := G3.x2
  have y90 := F9.x0
  have y91 := F9.x1
  have y92 := F9.x2
  go_wp2_with fail
  refine (zflags_of want G3 F9 (by omega) (by omega) h0 h1 h2 h0 h1 h2 (by rw [eqB_upd hm, eqB_self, eqB_self, hw]; cases want <;> rfl)).mono ?_
  rintro e w11 ⟨rfl, b11⟩
  have z11 := b11.size
  replace G3 := G3.below b11 (by omega)
  replace F9 := F9.below b11 (by omega)
  replace BB := BB.trans (b11.mono (by omega))
  clear b11 y30 y31 y32 y90 y91 y92
  have y30 := G3.x0
  have y31 := G3.x1
  have y32 := G3.x2
  have y90 := F9.x0
  have y91 := F9.x1
  have y92 := F9.x2
  go_wp2_with fail
  refine (zflags_of want F9 G3 (by omega) (by omega) h0 h1 h2 h0 h1 h2 (by rw [eqB_symm (upd f1 m s) f1, eqB_upd hm, eqB_self, eqB_self, hw]; cases want <;> rfl)).mono ?_
  rintro e w12 ⟨rfl, b12⟩
  replace BB := BB.trans (b12.mono (by omega))
  clear b12 y30 y31 y32 y90 y91 y92
  go_wp2_with fail
  go_ret
  exact ⟨rfl, BB⟩

set_option maxHeartbeats 2000000 in
theorem rep_q2 (a0 a1 a2 : Option Addr) (n0 n1 n2 c0 c1 c2 m : Nat) (f0 f1 f2 : Nat → ByteArray) (s : ByteArray) (w : World)
    (A0 : Arg w a0 n0 c0 f0) (A1 : Arg w a1 n1 c1 f1) (A2 : Arg w a2 n2 c2 f2) (hm : m < n2) (want : Bool) (hw : ((f2 m).toList == s.toList) = want) :
    Calls Try.prog 5 #[.slice a0 n0 c0, .slice a1 n1 c1, .slice a2 n2 c2, .int .i64 2, .int .i64 m, .string s] w fun e w' => e = .returned (.bool true) ∧ Below w.heap.size w w' := by
  have hm0 := A0.max
  have hm1 := A1.max
  have hm2 := A2.max
  go_enter Try.func5, Try.ntmps5
  go_wp2_with fail
  refine (bytes16 a0 a1 a2 n0 n1 n2 c0 c1 c2 f0 f1 f2 _ _ _ w hm0 hm1 hm2 0 w.heap.size A0.row A1.row A2.row).mono ?_
  rintro e w' ⟨⟨r, rfl, hr⟩, rfl⟩
  cases r with
  | false =>
    go_wp2_with fail
    go_ret
    exact ⟨rfl, Below.refl _ _⟩
  | true =>
  obtain ⟨h0, h1, h2⟩ := hr rfl
  clear hr
  go_wp2_with fail
  refine (sizeok_any a0 a1 a2 n0 n1 n2 c0 c1 c2 f0 f1 f2 _ w h0 h1 h2 0 w.heap.size A0.row A1.row A2.row).mono ?_
  rintro e w' ⟨⟨r, rfl⟩, rfl⟩
  cases r with
  | false =>
    go_wp2_with fail
    go_ret
    exact ⟨rfl, Below.refl _ _⟩
  | true =>
  have A0' := A0.row
  have A1' := A1.row
  have A2' := A2.row
  have l0 := A0.nil
  have l1 := A1.nil
  have l2 := A2.nil
  clear A0 A1 A2
  have HW : Hid (((f2 m).toList == s.toList) = want) := hw
  clear hw
  go_wp2_with fail
  refine (clone_any a0 n0 c0 f0 w h0 0 _ A0' (Nat.le_refl _) l0).mono ?_
  rintro e w1 ⟨p0, d0, rfl, b1, k0, o0⟩
  have z1 := b1.size
  replace A1' := A1'.below b1 (Nat.le_refl _)
  replace A2' := A2'.below b1 (Nat.le_refl _)
  clear A0' l0
  go_wp2_with fail
  refine (clone_any a1 n1 c1 f1 w1 h1 0 _ A1' z1 l1).mono ?_
  rintro e w2 ⟨p1, d1, rfl, b2, k1, o1⟩
  have z2 := b2.size
  replace A2' := A2'.below b2 z1
  replace o0 := o0.below b2 (Nat.le_refl _)
  have bb2 := b1.trans (b2.mono z1)
  clear A1' l1 b1 b2
  go_wp2_with fail
  refine (clone_any a2 n2 c2 f2 w2 h2 0 _ A2' (by omega) l2).mono ?_
  rintro e w3 ⟨p2, d2, rfl, b3, k2, o2⟩
  have z3 := b3.size
  have S0 : Strs w3 p0 n0 f0 0 w3.heap.size := (o0.below b3 (by omega)).strs.widen (by omega) (by omega)
  have S1 : Strs w3 p1 n1 f1 0 w3.heap.size := (o1.below b3 (by omega)).strs.widen (by omega) (by omega)
  have S2 : Strs w3 p2 n2 f2 0 w3.heap.size := o2.strs.widen (by omega) (by omega)
  have bb3 := bb2.trans (b3.mono (by omega))
  clear A2' l2 b3 bb2 o0 o1 o2
  have F3 := Flags.laid (c0 := d0) (c1 := d1) (c2 := d2) S0 S1 S2
  go_wp2_with fail
  refine (clone_laid p0 n0 d0 f0 w3 _ h0 0 _ S0 (Nat.le_refl _) k0).mono ?_
  rintro e w4 ⟨q0, e0, rfl, b4, z4, _, o0⟩
  have bb4 := bb3.trans (((below_laid w3 _).trans (b4.mono (Nat.le_succ _))).mono (by omega))
  replace F3 := F3.below b4 (Nat.le_refl _)
  clear b4 bb3 S0 S1 S2
  go_wp2_with fail
  refine (clone_any p1 n1 d1 f1 w4 h1 0 _ F3.s1 z4 k1).mono ?_
  rintro e w5 ⟨q1, e1, rfl, b5, _, o1⟩
  have z5 := b5.size
  have bb5 := bb4.trans (b5.mono (by omega))
  replace F3 := F3.below b5 (by omega)
  replace o0 := o0.below b5 (Nat.le_refl _)
  clear b5 bb4
  go_wp2_with fail
  refine (clone_any p2 n2 d2 f2 w5 h2 0 _ F3.s2 (by omega) k2).mono ?_
  rintro e w6 ⟨q2, e2, rfl, b6, _, o2⟩
  have z6 := b6.size
  have bb6 := bb5.trans (b6.mono (by omega))
  replace F3 := F3.below b6 (by omega)
  have S0 : Strs w6 q0 n0 f0 0 w6.heap.size := (o0.below b6 (by omega)).strs.widen (by omega) (by omega)
  have S1 : Strs w6 q1 n1 f1 0 w6.heap.size := (o1.below b6 (by omega)).strs.widen (by omega) (by omega)
  have S2 : Strs w6 q2 n2 f2 0 w6.heap.size := o2.strs.widen (by omega) (by omega)
  clear b6 bb5 o0 o1 o2
  have F6 := Flags.laid (c0 := e0) (c1 := e1) (c2 := e2) S0 S1 S2
  go_wp2_with fail
  refine (clone_laid p0 n0 d0 f0 w6 _ h0 0 _ F3.s0 (by omega) k0).mono ?_
  rintro e w7 ⟨r0, i0, rfl, b7, z7, _, o0⟩
  have bb7 := bb6.trans (((below_laid w6 _).trans (b7.mono (Nat.le_succ _))).mono (by omega))
  replace F6 := F6.below b7 (Nat.le_refl _)
  replace F3 := (F3.below (below_laid w6 (.cells #[.slice q0 n0 e0, .slice q1 n1 e1, .slice q2 n2 e2] 40)) (by omega)).below b7 (by omega)
  clear b7 bb6 S0 S1 S2
  go_wp2_with fail
  refine (clone_any p1 n1 d1 f1 w7 h1 0 _ F3.s1 (by omega) k1).mono ?_
  rintro e w8 ⟨r1, i1, rfl, b8, _, o1⟩
  have z8 := b8.size
  have bb8 := bb7.trans (b8.mono (by omega))
  replace F3 := F3.below b8 (by omega)
  replace F6 := F6.below b8 (by omega)
  replace o0 := o0.below b8 (Nat.le_refl _)
  clear b8 bb7
  go_wp2_with fail
  refine (clone_any p2 n2 d2 f2 w8 h2 0 _ F3.s2 (by omega) k2).mono ?_
  rintro e w9 ⟨r2, i2, rfl, b9, _, o2⟩
  have z9 := b9.size
  have bb9 := bb8.trans (b9.mono (by omega))
  replace F3 := F3.below b9 (by omega)
  replace F6 := F6.below b9 (by omega)
  replace o0 := o0.below b9 (by omega)
  replace o1 := o1.below b9 (by omega)
  clear b9 bb8 k0 k1 k2
  obtain ⟨bg, rfl, bg1, bg2, hbg⟩ := o2 (by omega)
  obtain ⟨cg, fg⟩ := hbg m hm
  clear hbg
  have hs0 : Strs ((w9.setCell ⟨bg, m, none⟩ (.string s)).alloc (.cells #[.slice r0 n0 i0, .slice r1 n1 i1, .slice (some ⟨bg, 0, none⟩) n2 i2] 40)) r0 n0 f0 0 w9.heap.size := (o0.strs.setOther (.inl (by omega)) (by omega)).widen (Nat.zero_le _) (by omega)
  have hs1 : Strs ((w9.setCell ⟨bg, m, none⟩ (.string s)).alloc (.cells #[.slice r0 n0 i0, .slice r1 n1 i1, .slice (some ⟨bg, 0, none⟩) n2 i2] 40)) r1 n1 f1 0 w9.heap.size := (o1.strs.setOther (.inl (by omega)) (by omega)).widen (Nat.zero_le _) (by omega)
  have hs2 : Strs ((w9.setCell ⟨bg, m, none⟩ (.string s)).alloc (.cells #[.slice r0 n0 i0, .slice r1 n1 i1, .slice (some ⟨bg, 0, none⟩) n2 i2] 40)) (some ⟨bg, 0, none⟩) n2 (upd f2 m s) 0 w9.heap.size := (o2.upd hm (by omega)).widen (Nat.zero_le _) (by omega)
  have F9 : Flags ((w9.setCell ⟨bg, m, none⟩ (.string s)).alloc (.cells #[.slice r0 n0 i0, .slice r1 n1 i1, .slice (some ⟨bg, 0, none⟩) n2 i2] 40)) (w9.heap.size + 1) w9.heap.size r0 r1 (some ⟨bg, 0, none⟩) n0 n1 n2 i0 i1 i2 f0 f1 (upd f2 m s) :=
    ⟨Nat.lt_succ_self _, by rw [World.cell?_alloc_at _ _ _ _ (by simp)]; rfl, by rw [World.cell?_alloc_at _ _ _ _ (by simp)]; rfl, by rw [World.cell?_alloc_at _ _ _ _ (by simp)]; rfl, hs0.widen (Nat.le_refl _) (Nat.le_succ _), hs1.widen (Nat.le_refl _) (Nat.le_succ _), hs2.widen (Nat.le_refl _) (Nat.le_succ _)⟩
  have G3 : Flags ((w9.setCell ⟨bg, m, none⟩ (.string s)).alloc (.cells #[.slice r0 n0 i0, .slice r1 n1 i1, .slice (some ⟨bg, 0, none⟩) n2 i2] 40)) (w3.heap.size + 1) w3.heap.size p0 p1 p2 n0 n1 n2 d0 d1 d2 f0 f1 f2 := F3.setOther (by omega) (by omega)
  have G6 : Flags ((w9.setCell ⟨bg, m, none⟩ (.string s)).alloc (.cells #[.slice r0 n0 i0, .slice r1 n1 i1, .slice (some ⟨bg, 0, none⟩) n2 i2] 40)) (w6.heap.size + 1) w6.heap.size q0 q1 q2 n0 n1 n2 e0 e1 e2 f0 f1 f2 := F6.setOther (by omega) (by omega)
  have BB : Below w.heap.size w ((w9.setCell ⟨bg, m, none⟩ (.string s)).alloc (.cells #[.slice r0 n0 i0, .slice r1 n1 i1, .slice (some ⟨bg, 0, none⟩) n2 i2] 40)) := (bb9.setCell (p := ⟨bg, m, none⟩) (by show w.heap.size ≤ bg; omega) _).alloc (by rw [World.size_setCell]; omega) _
  have y30 := F3.x0
  have y31 := F3.x1
  have y32 := F3.x2
  have y60 := F6.x0
  have y61 := F6.x1
  have y62 := F6.x2
  have u1 : bg < w9.heap.size := by omega
  have u2 : w3.heap.size < w9.heap.size := by omega
  have u3 : w6.heap.size < w9.heap.size := by omega
  clear hs0 hs1 hs2 o0 o1 o2 F3 F6 bb9
  have hw := HW.out
  have hsz : ((w9.setCell ⟨bg, m, none⟩ (.string s)).alloc (.cells #[.slice r0 n0 i0, .slice r1 n1 i1, .slice (some ⟨bg, 0, none⟩) n2 i2] 40)).heap.size = w9.heap.size + 1 := by rw [World.size_alloc, World.size_setCell]
  have HZ := hsz
  clear hsz
  have HZ' : Hid (((w9.setCell ⟨bg, m, none⟩ (.string s)).alloc (.cells #[.slice r0 n0 i0, .slice r1 n1 i1, .slice (some ⟨bg, 0, none⟩) n2 i2] 40)).heap.size = w9.heap.size + 1) := HZ
  clear HZ
  go_wp2_with fail
  refine (zflags_of true G3 G6 (by rw [HZ'.out]; omega) (by rw [HZ'.out]; omega) h0 h1 h2 h0 h1 h2 (by rw [eqB_self, eqB_self, eqB_self]; rfl)).mono ?_
  rintro e w10 ⟨rfl, b10⟩
  have z10 := b10.size
  rw [HZ'.out] at b10 z10
  replace G3 := G3.below b10 (by omega)
  replace F9 := F9.below b10 (Nat.le_refl _)
  replace BB := BB.trans (b10.mono (by omega))
  clear G6 b10 y30 y31 y32 y60 y61 y62 HZ'
  have y30 := G3.x0
  have y31 := G3.x1
  have y32 := G3.x2
  have y90 := F9.x0
  have y91 := F9.x1
  have y92 := F9.x2
  go_wp2_with fail
  refine (zflags_of want G3 F9 (by omega) (by omega) h0 h1 h2 h0 h1 h2 (by rw [eqB_upd hm, eqB_self, eqB_self, hw]; cases want <;> rfl)).mono ?_
  rintro e w11 ⟨rfl, b11⟩
  have z11 := b11.size
  replace G3 := G3.below b11 (by omega)
  replace F9 := F9.below b11 (by omega)
  replace BB := BB.trans (b11.mono (by omega))
  clear b11 y30 y31 y32 y90 y91 y92
  have y30 := G3.x0
  have y31 := G3.x1
  have y32 := G3.x2
  have y90 := F9.x0
  have y91 := F9.x1
  have y92 := F9.x2
  go_wp2_with fail
  refine (zflags_of want F9 G3 (by omega) (by omega) h0 h1 h2 h0 h1 h2 (by rw [eqB_symm (upd f2 m s) f2, eqB_upd hm, eqB_self, eqB_self, hw]; cases want <;> rfl)).mono ?_
  rintro e w12 ⟨rfl, b12⟩
  replace BB := BB.trans (b12.mono (by omega))
  clear b12 y30 y31 y32 y90 y91 y92
  go_wp2_with fail
  go_ret
  exact ⟨rfl, BB⟩

end Go.Proofs.Qxb6616689a
