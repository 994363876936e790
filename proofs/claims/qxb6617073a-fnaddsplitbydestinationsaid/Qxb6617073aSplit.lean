import Derived.Test.Qxb6617073aSplitA
import Derived.Deep.DeepCutAuto
namespace Go.Proofs.Qxb6617073a
open Go.RowKit

/-- The message's own box. -/
structure MBox (w : World) (b : Nat) (m : Msg) : Prop where
  lt : b < w.heap.size
  c0 : w.cell? ⟨b, 0, none⟩ = some (.int .i64 m.size)
  c1 : w.cell? ⟨b, 1, none⟩ = some (.int .u8 m.cls)
  c2 : w.cell? ⟨b, 2, none⟩ = some (.int .u64 m.frm)
  c3 : w.cell? ⟨b, 3, none⟩ = some (.int .i64 m.ent)
  c4 : w.cell? ⟨b, 4, none⟩ = some (.bool m.tl)
  c5 : w.cell? ⟨b, 5, none⟩ = some (.bool m.tf)
theorem MBox.laid (w : World) (m : Msg) : MBox (w.alloc (.cells #[.int .i64 m.size, .int .u8 m.cls, .int .u64 m.frm, .int .i64 m.ent, .bool m.tl, .bool m.tf] 32)) w.heap.size m :=
  ⟨by simp, by simp, by simp, by simp, by simp, by simp, by simp⟩
theorem MBox.but {w w' : World} {b b' : Nat} {m : Msg} (h : MBox w b m) (k : But b' w w') (hb : b ≠ b') : MBox w' b m :=
  ⟨Nat.lt_of_lt_of_le h.lt k.size, (k.cell h.lt hb).trans h.c0, (k.cell h.lt hb).trans h.c1, (k.cell h.lt hb).trans h.c2, (k.cell h.lt hb).trans h.c3, (k.cell h.lt hb).trans h.c4, (k.cell h.lt hb).trans h.c5⟩

theorem below_one (w : World) (o : Obj) : Below w.heap.size w (w.alloc o) := (Below.refl _ _).alloc (Nat.le_refl _) _

set_option maxHeartbeats 1000000 in
theorem split_great (c : Nat → Int) (a : Option Addr) (n d : Nat) (w : World) (hn : 1048576 < n) :
    Calls Try.prog 3 #[.agg #[.int .u64 (c 0), .int .u64 (c 1), .int .u64 (c 2), .int .u64 (c 3), .int .u64 (c 4), .int .u64 (c 5), .int .u64 (c 6), .int .u64 (c 7), .int .u64 (c 8), .int .u64 (c 9), .int .u64 (c 10), .int .u64 (c 11), .int .u64 (c 12), .int .u64 (c 13)], .slice a n d] w fun e w' => e = .returned (.bool true) ∧ Below w.heap.size w w' := by
  go_enter Try.func3, Try.ntmps3
  go_wp2_with fail
  refine (bytes_no_e c a n d _ hn).mono ?_
  rintro e w1 ⟨rfl, b1⟩
  go_wp2_with fail
  go_ret
  exact ⟨rfl, (below_one w _).trans (b1.mono (by simp))⟩

set_option maxHeartbeats 1000000 in
theorem split_big (c : Nat → Int) (a : Option Addr) (n d : Nat) (w : World) (hn : n ≤ 1048576) (hm : 32768 < n) :
    Calls Try.prog 3 #[.agg #[.int .u64 (c 0), .int .u64 (c 1), .int .u64 (c 2), .int .u64 (c 3), .int .u64 (c 4), .int .u64 (c 5), .int .u64 (c 6), .int .u64 (c 7), .int .u64 (c 8), .int .u64 (c 9), .int .u64 (c 10), .int .u64 (c 11), .int .u64 (c 12), .int .u64 (c 13)], .slice a n d] w fun e w' => e = .returned (.bool true) ∧ Below w.heap.size w w' := by
  go_enter Try.func3, Try.ntmps3
  go_wp2_with fail
  refine (bytes_yes_e c a n d _ hn).mono ?_
  rintro e w1 ⟨rfl, b1⟩
  go_wp2_with fail
  go_ret
  exact ⟨rfl, (below_one w _).trans (b1.mono (by simp))⟩

set_option maxRecDepth 20000 in
set_option maxHeartbeats 4000000 in
theorem split_main (c : Nat → Int) (a : Option Addr) (n d : Nat) (M : Nat → Msg) (w : World) (hn : n ≤ 32768) (ok : ∀ j, j < 14 → IntKind.u64.wrap (c j) = c j) (A : Msgs w a n M w.heap.size) :
    Calls Try.prog 3 #[.agg #[.int .u64 (c 0), .int .u64 (c 1), .int .u64 (c 2), .int .u64 (c 3), .int .u64 (c 4), .int .u64 (c 5), .int .u64 (c 6), .int .u64 (c 7), .int .u64 (c 8), .int .u64 (c 9), .int .u64 (c 10), .int .u64 (c 11), .int .u64 (c 12), .int .u64 (c 13)], .slice a n d] w fun e w' => e = .returned (.bool true) ∧ Below w.heap.size w w' := by
  go_enter Try.func3, Try.ntmps3
  go_wp2_with fail
  refine (bytes_yes_e c a n d _ (by omega)).mono ?_
  rintro e w1 ⟨rfl, b1⟩
  have R1 := (Row.laid w c ok 24).below b1 (by simp)
  have bb1 := (below_one w (.cells #[.int .u64 (c 0), .int .u64 (c 1), .int .u64 (c 2), .int .u64 (c 3), .int .u64 (c 4), .int .u64 (c 5), .int .u64 (c 6), .int .u64 (c 7), .int .u64 (c 8), .int .u64 (c 9), .int .u64 (c 10), .int .u64 (c 11), .int .u64 (c 12), .int .u64 (c 13)] 24)).trans (b1.mono (by simp))
  have y1 := R1.lt
  clear b1
  have i0 := R1.cell 0 (by omega)
  have i1 := R1.cell 1 (by omega)
  have i2 := R1.cell 2 (by omega)
  have i3 := R1.cell 3 (by omega)
  have i4 := R1.cell 4 (by omega)
  have i5 := R1.cell 5 (by omega)
  have i6 := R1.cell 6 (by omega)
  have i7 := R1.cell 7 (by omega)
  have i8 := R1.cell 8 (by omega)
  have i9 := R1.cell 9 (by omega)
  have i10 := R1.cell 10 (by omega)
  have i11 := R1.cell 11 (by omega)
  have i12 := R1.cell 12 (by omega)
  have i13 := R1.cell 13 (by omega)
  go_wp2_with fail
  refine (tocounts_e c w1).mono ?_
  rintro e w2 ⟨rfl, b2⟩
  have R2 := R1.below b2 R1.lt
  have bb2 := bb1.trans (b2.mono bb1.size)
  have y2 := R2.lt
  clear b2 bb1 R1 i0 i1 i2 i3 i4 i5 i6 i7 i8 i9 i10 i11 i12 i13
  have i0 := R2.cell 0 (by omega)
  have i1 := R2.cell 1 (by omega)
  have i2 := R2.cell 2 (by omega)
  have i3 := R2.cell 3 (by omega)
  have i4 := R2.cell 4 (by omega)
  have i5 := R2.cell 5 (by omega)
  have i6 := R2.cell 6 (by omega)
  have i7 := R2.cell 7 (by omega)
  have i8 := R2.cell 8 (by omega)
  have i9 := R2.cell 9 (by omega)
  have i10 := R2.cell 10 (by omega)
  have i11 := R2.cell 11 (by omega)
  have i12 := R2.cell 12 (by omega)
  have i13 := R2.cell 13 (by omega)
  have y2a : w.heap.size < w2.heap.size + 1 := by omega
  have y2b : w.heap.size < w2.heap.size + 1 + 1 := by omega
  have T2 := Row.laid w2 c ok 27
  have F2 := Row.laid (w2.alloc (.cells #[.int .u64 (c 0), .int .u64 (c 1), .int .u64 (c 2), .int .u64 (c 3), .int .u64 (c 4), .int .u64 (c 5), .int .u64 (c 6), .int .u64 (c 7), .int .u64 (c 8), .int .u64 (c 9), .int .u64 (c 10), .int .u64 (c 11), .int .u64 (c 12), .int .u64 (c 13)] 27)) (fun _ => 0) (fun j _ => by rfl) 27
  have S2 := Row.laid ((w2.alloc (.cells #[.int .u64 (c 0), .int .u64 (c 1), .int .u64 (c 2), .int .u64 (c 3), .int .u64 (c 4), .int .u64 (c 5), .int .u64 (c 6), .int .u64 (c 7), .int .u64 (c 8), .int .u64 (c 9), .int .u64 (c 10), .int .u64 (c 11), .int .u64 (c 12), .int .u64 (c 13)] 27)).alloc (.cells #[.int .u64 0, .int .u64 0, .int .u64 0, .int .u64 0, .int .u64 0, .int .u64 0, .int .u64 0, .int .u64 0, .int .u64 0, .int .u64 0, .int .u64 0, .int .u64 0, .int .u64 0, .int .u64 0] 27)) (fun _ => 0) (fun j _ => by rfl) 27
  have bb2c := ((bb2.alloc (by omega) (.cells #[.int .u64 (c 0), .int .u64 (c 1), .int .u64 (c 2), .int .u64 (c 3), .int .u64 (c 4), .int .u64 (c 5), .int .u64 (c 6), .int .u64 (c 7), .int .u64 (c 8), .int .u64 (c 9), .int .u64 (c 10), .int .u64 (c 11), .int .u64 (c 12), .int .u64 (c 13)] 27)).alloc (by rw [World.size_alloc]; omega) (.cells #[.int .u64 0, .int .u64 0, .int .u64 0, .int .u64 0, .int .u64 0, .int .u64 0, .int .u64 0, .int .u64 0, .int .u64 0, .int .u64 0, .int .u64 0, .int .u64 0, .int .u64 0, .int .u64 0] 27)).alloc (by rw [World.size_alloc, World.size_alloc]; omega) (.cells #[.int .u64 0, .int .u64 0, .int .u64 0, .int .u64 0, .int .u64 0, .int .u64 0, .int .u64 0, .int .u64 0, .int .u64 0, .int .u64 0, .int .u64 0, .int .u64 0, .int .u64 0, .int .u64 0] 27)
  go_wp2_with fail
  refine (tally_e c _).mono ?_
  rintro e w3 ⟨rfl, b3⟩
  have bb3 := bb2c.trans (b3.mono bb2c.size)
  have sz3 : w2.heap.size + 3 ≤ w3.heap.size := by have := b3.size; rw [World.size_alloc, World.size_alloc, World.size_alloc] at this; omega
  have C3 := (((R2.alloc (.cells #[.int .u64 (c 0), .int .u64 (c 1), .int .u64 (c 2), .int .u64 (c 3), .int .u64 (c 4), .int .u64 (c 5), .int .u64 (c 6), .int .u64 (c 7), .int .u64 (c 8), .int .u64 (c 9), .int .u64 (c 10), .int .u64 (c 11), .int .u64 (c 12), .int .u64 (c 13)] 27)).alloc (.cells #[.int .u64 0, .int .u64 0, .int .u64 0, .int .u64 0, .int .u64 0, .int .u64 0, .int .u64 0, .int .u64 0, .int .u64 0, .int .u64 0, .int .u64 0, .int .u64 0, .int .u64 0, .int .u64 0] 27)).alloc (.cells #[.int .u64 0, .int .u64 0, .int .u64 0, .int .u64 0, .int .u64 0, .int .u64 0, .int .u64 0, .int .u64 0, .int .u64 0, .int .u64 0, .int .u64 0, .int .u64 0, .int .u64 0, .int .u64 0] 27)).below b3 (by rw [World.size_alloc, World.size_alloc, World.size_alloc]; omega)
  have T3 := ((T2.alloc (.cells #[.int .u64 0, .int .u64 0, .int .u64 0, .int .u64 0, .int .u64 0, .int .u64 0, .int .u64 0, .int .u64 0, .int .u64 0, .int .u64 0, .int .u64 0, .int .u64 0, .int .u64 0, .int .u64 0] 27)).alloc (.cells #[.int .u64 0, .int .u64 0, .int .u64 0, .int .u64 0, .int .u64 0, .int .u64 0, .int .u64 0, .int .u64 0, .int .u64 0, .int .u64 0, .int .u64 0, .int .u64 0, .int .u64 0, .int .u64 0] 27)).below b3 (by rw [World.size_alloc, World.size_alloc, World.size_alloc]; omega)
  have F3 := (F2.alloc (.cells #[.int .u64 0, .int .u64 0, .int .u64 0, .int .u64 0, .int .u64 0, .int .u64 0, .int .u64 0, .int .u64 0, .int .u64 0, .int .u64 0, .int .u64 0, .int .u64 0, .int .u64 0, .int .u64 0] 27)).below b3 (by simp only [World.size_alloc]; omega)
  have S3 := S2.below b3 (by simp only [World.size_alloc]; omega)
  rw [World.size_alloc] at F3
  rw [World.size_alloc, World.size_alloc] at S3
  clear b3 R2 bb2 T2 F2 S2 bb2c i0 i1 i2 i3 i4 i5 i6 i7 i8 i9 i10 i11 i12 i13 y2a y2b
  have K3 := Row.laid w3 c ok 29
  have I0 : Hid (LInv w (w3.alloc (.cells #[.int .u64 (c 0), .int .u64 (c 1), .int .u64 (c 2), .int .u64 (c 3), .int .u64 (c 4), .int .u64 (c 5), .int .u64 (c 6), .int .u64 (c 7), .int .u64 (c 8), .int .u64 (c 9), .int .u64 (c 10), .int .u64 (c 11), .int .u64 (c 12), .int .u64 (c 13)] 29)) w.heap.size w2.heap.size (w2.heap.size + 1) (w2.heap.size + 1 + 1) w3.heap.size c (fun _ => 0) (fun _ => 0)) :=
    ⟨bb3.alloc (by omega) _, C3.alloc _, (T3.alloc _).congr (fun j hj => by unfold tot; simp [ok j hj]), (F3.alloc _).congr (fun j hj => by unfold low; rfl), (S3.alloc _).congr (fun j hj => by unfold low; rfl), K3.congr (fun j hj => by unfold tot; simp [ok j hj])⟩
  clear bb3 C3 T3 F3 S3 K3
  go_wp2_with fail
  go_loopw [9] (fun i wr => ∃ (k : Nat) (s t : Nat → Int), k ≤ n ∧ i = .int .i64 k ∧ LInv w wr w.heap.size w2.heap.size (w2.heap.size + 1) (w2.heap.size + 1 + 1) w3.heap.size c s t) (fun i _ => n - (intOf i).toNat)
  case atStart => exact ⟨0, _, _, Nat.zero_le _, rfl, I0.out⟩
  case round =>
    clear I0
    obtain ⟨k, s, t, hk, rfl, I⟩ := hrel
    by_cases hlt : k < n
    · obtain ⟨b, off, rfl, hb, hM⟩ := A (by omega)
      obtain ⟨m0, m1, m2, m3, m4, m5, mc⟩ := hM k hlt
      obtain ⟨m, hm⟩ : ∃ m, m = M k := ⟨_, rfl⟩
      rw [← hm] at m0 m1 m2 m3 m4 m5 mc
      have bk := I.bel
      replace m0 := (bk.cell (p := ⟨b, off + k * 6, none⟩) hb).trans m0
      replace m1 := (bk.cell (p := ⟨b, off + k * 6 + 1, none⟩) hb).trans m1
      replace m2 := (bk.cell (p := ⟨b, off + k * 6 + 2, none⟩) hb).trans m2
      replace m3 := (bk.cell (p := ⟨b, off + k * 6 + 3, none⟩) hb).trans m3
      replace m4 := (bk.cell (p := ⟨b, off + k * 6 + 4, none⟩) hb).trans m4
      replace m5 := (bk.cell (p := ⟨b, off + k * 6 + 5, none⟩) hb).trans m5
      clear hM hm bk A
      obtain ⟨bel, rC, rT, rF, rS, rK⟩ := I
      have ltw := rT.lt
      have ltk := rK.lt
      have x4 := MBox.laid wr m
      have bel4 := bel.alloc bel.size (.cells #[.int .i64 m.size, .int .u8 m.cls, .int .u64 m.frm, .int .i64 m.ent, .bool m.tl, .bool m.tf] 32)
      go_wp2_with fail
      refine (zadd_any w2.heap.size (tot c s t) m.size m.frm m.ent m.cls m.tl _ (rT.alloc _) mc).mono ?_
      rintro e w5 ⟨rfl, rT5, u5⟩
      have rC5 := (rC.alloc _).but u5 (by omega)
      have rF5 := (rF.alloc _).but u5 (by omega)
      have rS5 := (rS.alloc _).but u5 (by omega)
      have rK5 := (rK.alloc _).but u5 (by omega)
      have bel5 := bel4.trans (u5.below (by omega) bel4.size)
      have x5 := x4.but u5 (by omega)
      clear u5 bel rC rT rF rS rK x4 bel4 m0 m1 m2 m3 m4 m5
      have v0 := x5.c0
      have v1 := x5.c1
      have v2 := x5.c2
      have v3 := x5.c3
      have v4 := x5.c4
      have v5 := x5.c5
      cases htf : m.tf with
      | true =>
        rw [htf] at v5
        go_wp2_with fail
        refine (zadd_any (w2.heap.size + 1) (low s) m.size m.frm m.ent m.cls m.tl w5 rF5 mc).mono ?_
        rintro e w6 ⟨rfl, rF6, u6⟩
        have rC6 := rC5.but u6 (by omega)
        have rT6 := rT5.but u6 (by omega)
        have rS6 := rS5.but u6 (by omega)
        have rK6 := rK5.but u6 (by omega)
        have bel6 := bel5.trans (u6.below (by omega) bel5.size)
        have x6 := x5.but u6 (by omega)
        clear u6 rC5 rT5 rF5 rS5 rK5 bel5 x5 v0 v1 v2 v3 v4 v5
        have v0 := x6.c0
        have v1 := x6.c1
        have v2 := x6.c2
        have v3 := x6.c3
        have v4 := x6.c4
        have v5 := x6.c5
        go_wp2_with fail
        refine (one_any w3.heap.size (tot c s t) m.size m.ent m.cls m.tl w6 rK6).mono ?_
        rintro e w7 ⟨rfl, rK7, u7⟩
        have rC7 := rC6.but u7 (by omega)
        have rT7 := rT6.but u7 (by omega)
        have rF7 := rF6.but u7 (by omega)
        have rS7 := rS6.but u7 (by omega)
        have bel7 := bel6.trans (u7.below (by omega) bel6.size)
        have L7 : Hid (LInv w w7 w.heap.size w2.heap.size (w2.heap.size + 1) (w2.heap.size + 1 + 1) w3.heap.size c (more s m) t) := ⟨bel7, rC7, rT7.congr (fun j _ => tot_left c s t m j), rF7.congr (fun j _ => low_more s m j), rS7, rK7.congr (fun j _ => tot_left c s t m j)⟩
        clear u7 rC6 rT6 rF6 rS6 rK6 bel6 x6 v0 v1 v2 v3 v4 v5 rC7 rT7 rF7 rS7 rK7 bel7
        go_wp2_with fail
        go_roundw
        case rel => exact ⟨k + 1, more s m, t, by omega, by go_num, L7.out⟩
        case measure => simp [intOf]; omega
      | false =>
        rw [htf] at v5
        go_wp2_with fail
        refine (zadd_any (w2.heap.size + 1 + 1) (low t) m.size m.frm m.ent m.cls m.tl w5 rS5 mc).mono ?_
        rintro e w6 ⟨rfl, rS6, u6⟩
        have rC6 := rC5.but u6 (by omega)
        have rT6 := rT5.but u6 (by omega)
        have rF6 := rF5.but u6 (by omega)
        have rK6 := rK5.but u6 (by omega)
        have bel6 := bel5.trans (u6.below (by omega) bel5.size)
        have x6 := x5.but u6 (by omega)
        clear u6 rC5 rT5 rF5 rS5 rK5 bel5 x5 v0 v1 v2 v3 v4 v5
        have v0 := x6.c0
        have v1 := x6.c1
        have v2 := x6.c2
        have v3 := x6.c3
        have v4 := x6.c4
        have v5 := x6.c5
        go_wp2_with fail
        refine (one_any w3.heap.size (tot c s t) m.size m.ent m.cls m.tl w6 rK6).mono ?_
        rintro e w7 ⟨rfl, rK7, u7⟩
        have rC7 := rC6.but u7 (by omega)
        have rT7 := rT6.but u7 (by omega)
        have rF7 := rF6.but u7 (by omega)
        have rS7 := rS6.but u7 (by omega)
        have bel7 := bel6.trans (u7.below (by omega) bel6.size)
        have L7 : Hid (LInv w w7 w.heap.size w2.heap.size (w2.heap.size + 1) (w2.heap.size + 1 + 1) w3.heap.size c s (more t m)) := ⟨bel7, rC7, rT7.congr (fun j _ => tot_right c s t m j), rF7, rS7.congr (fun j _ => low_more t m j), rK7.congr (fun j _ => tot_right c s t m j)⟩
        clear u7 rC6 rT6 rF6 rS6 rK6 bel6 x6 v0 v1 v2 v3 v4 v5 rC7 rT7 rF7 rS7 rK7 bel7
        go_wp2_with fail
        go_roundw
        case rel => exact ⟨k + 1, s, more t m, by omega, by go_num, L7.out⟩
        case measure => simp [intOf]; omega
    · clear A ok
      obtain ⟨bel, rC, rT, rF, rS, rK⟩ := I
      have okc := rC.ok
      have q0 := rC.lt
      have q1 := rK.lt
      have i0 := rC.cell 0 (by omega)
      have i1 := rC.cell 1 (by omega)
      have i2 := rC.cell 2 (by omega)
      have i3 := rC.cell 3 (by omega)
      have i4 := rC.cell 4 (by omega)
      have i5 := rC.cell 5 (by omega)
      have i6 := rC.cell 6 (by omega)
      have i7 := rC.cell 7 (by omega)
      have i8 := rC.cell 8 (by omega)
      have i9 := rC.cell 9 (by omega)
      have i10 := rC.cell 10 (by omega)
      have i11 := rC.cell 11 (by omega)
      have i12 := rC.cell 12 (by omega)
      have i13 := rC.cell 13 (by omega)
      go_wp2_with fail
      refine (tally_e c wr).mono ?_
      rintro e w8 ⟨rfl, b8⟩
      have q8 := b8.size
      have bel8 := (bel.trans (b8.mono bel.size)).alloc (by omega) (.cells #[.int .u64 (c 0), .int .u64 (c 1), .int .u64 (c 2), .int .u64 (c 3), .int .u64 (c 4), .int .u64 (c 5), .int .u64 (c 6), .int .u64 (c 7), .int .u64 (c 8), .int .u64 (c 9), .int .u64 (c 10), .int .u64 (c 11), .int .u64 (c 12), .int .u64 (c 13)] 29)
      have s8 := Row.laid w8 c okc 29
      have T8 := rT.below b8 rT.lt
      have F8 := (rF.below b8 rF.lt).alloc (.cells #[.int .u64 (c 0), .int .u64 (c 1), .int .u64 (c 2), .int .u64 (c 3), .int .u64 (c 4), .int .u64 (c 5), .int .u64 (c 6), .int .u64 (c 7), .int .u64 (c 8), .int .u64 (c 9), .int .u64 (c 10), .int .u64 (c 11), .int .u64 (c 12), .int .u64 (c 13)] 29)
      have S8 := (rS.below b8 rS.lt).alloc (.cells #[.int .u64 (c 0), .int .u64 (c 1), .int .u64 (c 2), .int .u64 (c 3), .int .u64 (c 4), .int .u64 (c 5), .int .u64 (c 6), .int .u64 (c 7), .int .u64 (c 8), .int .u64 (c 9), .int .u64 (c 10), .int .u64 (c 11), .int .u64 (c 12), .int .u64 (c 13)] 29)
      have K8 := (rK.below b8 rK.lt).alloc (.cells #[.int .u64 (c 0), .int .u64 (c 1), .int .u64 (c 2), .int .u64 (c 3), .int .u64 (c 4), .int .u64 (c 5), .int .u64 (c 6), .int .u64 (c 7), .int .u64 (c 8), .int .u64 (c 9), .int .u64 (c 10), .int .u64 (c 11), .int .u64 (c 12), .int .u64 (c 13)] 29)
      have q8a : w2.heap.size < w8.heap.size := by omega
      clear b8 bel rC rT rF rS rK okc i0 i1 i2 i3 i4 i5 i6 i7 i8 i9 i10 i11 i12 i13
      have i0 := T8.cell 0 (by omega)
      have i1 := T8.cell 1 (by omega)
      have i2 := T8.cell 2 (by omega)
      have i3 := T8.cell 3 (by omega)
      have i4 := T8.cell 4 (by omega)
      have i5 := T8.cell 5 (by omega)
      have i6 := T8.cell 6 (by omega)
      have i7 := T8.cell 7 (by omega)
      have i8 := T8.cell 8 (by omega)
      have i9 := T8.cell 9 (by omega)
      have i10 := T8.cell 10 (by omega)
      have i11 := T8.cell 11 (by omega)
      have i12 := T8.cell 12 (by omega)
      have i13 := T8.cell 13 (by omega)
      go_wp2_with fail
      refine (counts_e (tot c s t) _).mono ?_
      rintro e w9 ⟨rfl, b9⟩
      have q9 := b9.size
      rw [World.size_alloc] at q9
      have bel9 := (bel8.trans (b9.mono bel8.size)).alloc (by omega) (.cells #[.int .u64 (tot c s t 0), .int .u64 (tot c s t 1), .int .u64 (tot c s t 2), .int .u64 (tot c s t 3), .int .u64 (tot c s t 4), .int .u64 (tot c s t 5), .int .u64 (tot c s t 6), .int .u64 (tot c s t 7), .int .u64 (tot c s t 8), .int .u64 (tot c s t 9), .int .u64 (tot c s t 10), .int .u64 (tot c s t 11), .int .u64 (tot c s t 12), .int .u64 (tot c s t 13)] 29)
      have s9 := (s8.below b9 s8.lt).alloc (.cells #[.int .u64 (tot c s t 0), .int .u64 (tot c s t 1), .int .u64 (tot c s t 2), .int .u64 (tot c s t 3), .int .u64 (tot c s t 4), .int .u64 (tot c s t 5), .int .u64 (tot c s t 6), .int .u64 (tot c s t 7), .int .u64 (tot c s t 8), .int .u64 (tot c s t 9), .int .u64 (tot c s t 10), .int .u64 (tot c s t 11), .int .u64 (tot c s t 12), .int .u64 (tot c s t 13)] 29)
      have F9 := F8.below b9 F8.lt
      have S9 := (S8.below b9 S8.lt).alloc (.cells #[.int .u64 (tot c s t 0), .int .u64 (tot c s t 1), .int .u64 (tot c s t 2), .int .u64 (tot c s t 3), .int .u64 (tot c s t 4), .int .u64 (tot c s t 5), .int .u64 (tot c s t 6), .int .u64 (tot c s t 7), .int .u64 (tot c s t 8), .int .u64 (tot c s t 9), .int .u64 (tot c s t 10), .int .u64 (tot c s t 11), .int .u64 (tot c s t 12), .int .u64 (tot c s t 13)] 29)
      have K9 := (K8.below b9 K8.lt).alloc (.cells #[.int .u64 (tot c s t 0), .int .u64 (tot c s t 1), .int .u64 (tot c s t 2), .int .u64 (tot c s t 3), .int .u64 (tot c s t 4), .int .u64 (tot c s t 5), .int .u64 (tot c s t 6), .int .u64 (tot c s t 7), .int .u64 (tot c s t 8), .int .u64 (tot c s t 9), .int .u64 (tot c s t 10), .int .u64 (tot c s t 11), .int .u64 (tot c s t 12), .int .u64 (tot c s t 13)] 29)
      have t9 := Row.laid w9 (tot c s t) (fun j _ => tot_ok c s t j) 29
      have q9a : w2.heap.size + 1 < w9.heap.size := by omega
      clear b9 bel8 s8 T8 F8 S8 K8 i0 i1 i2 i3 i4 i5 i6 i7 i8 i9 i10 i11 i12 i13 q8a
      have i0 := F9.cell 0 (by omega)
      have i1 := F9.cell 1 (by omega)
      have i2 := F9.cell 2 (by omega)
      have i3 := F9.cell 3 (by omega)
      have i4 := F9.cell 4 (by omega)
      have i5 := F9.cell 5 (by omega)
      have i6 := F9.cell 6 (by omega)
      have i7 := F9.cell 7 (by omega)
      have i8 := F9.cell 8 (by omega)
      have i9 := F9.cell 9 (by omega)
      have i10 := F9.cell 10 (by omega)
      have i11 := F9.cell 11 (by omega)
      have i12 := F9.cell 12 (by omega)
      have i13 := F9.cell 13 (by omega)
      go_wp2_with fail
      refine (counts_e (low s) _).mono ?_
      rintro e w10 ⟨rfl, b10⟩
      have q10 := b10.size
      rw [World.size_alloc] at q10
      have bel10 := (bel9.trans (b10.mono bel9.size)).alloc (by omega) (.cells #[.int .u64 (low s 0), .int .u64 (low s 1), .int .u64 (low s 2), .int .u64 (low s 3), .int .u64 (low s 4), .int .u64 (low s 5), .int .u64 (low s 6), .int .u64 (low s 7), .int .u64 (low s 8), .int .u64 (low s 9), .int .u64 (low s 10), .int .u64 (low s 11), .int .u64 (low s 12), .int .u64 (low s 13)] 29)
      have s10 := (s9.below b10 s9.lt).alloc (.cells #[.int .u64 (low s 0), .int .u64 (low s 1), .int .u64 (low s 2), .int .u64 (low s 3), .int .u64 (low s 4), .int .u64 (low s 5), .int .u64 (low s 6), .int .u64 (low s 7), .int .u64 (low s 8), .int .u64 (low s 9), .int .u64 (low s 10), .int .u64 (low s 11), .int .u64 (low s 12), .int .u64 (low s 13)] 29)
      have S10 := S9.below b10 S9.lt
      have K10 := (K9.below b10 K9.lt).alloc (.cells #[.int .u64 (low s 0), .int .u64 (low s 1), .int .u64 (low s 2), .int .u64 (low s 3), .int .u64 (low s 4), .int .u64 (low s 5), .int .u64 (low s 6), .int .u64 (low s 7), .int .u64 (low s 8), .int .u64 (low s 9), .int .u64 (low s 10), .int .u64 (low s 11), .int .u64 (low s 12), .int .u64 (low s 13)] 29)
      have t10 := (t9.below b10 t9.lt).alloc (.cells #[.int .u64 (low s 0), .int .u64 (low s 1), .int .u64 (low s 2), .int .u64 (low s 3), .int .u64 (low s 4), .int .u64 (low s 5), .int .u64 (low s 6), .int .u64 (low s 7), .int .u64 (low s 8), .int .u64 (low s 9), .int .u64 (low s 10), .int .u64 (low s 11), .int .u64 (low s 12), .int .u64 (low s 13)] 29)
      have a10 := Row.laid w10 (low s) (fun j _ => low_ok s j) 29
      have q10a : w2.heap.size + 1 + 1 < w10.heap.size := by omega
      clear b10 bel9 s9 F9 S9 K9 t9 i0 i1 i2 i3 i4 i5 i6 i7 i8 i9 i10 i11 i12 i13 q9a
      have i0 := S10.cell 0 (by omega)
      have i1 := S10.cell 1 (by omega)
      have i2 := S10.cell 2 (by omega)
      have i3 := S10.cell 3 (by omega)
      have i4 := S10.cell 4 (by omega)
      have i5 := S10.cell 5 (by omega)
      have i6 := S10.cell 6 (by omega)
      have i7 := S10.cell 7 (by omega)
      have i8 := S10.cell 8 (by omega)
      have i9 := S10.cell 9 (by omega)
      have i10 := S10.cell 10 (by omega)
      have i11 := S10.cell 11 (by omega)
      have i12 := S10.cell 12 (by omega)
      have i13 := S10.cell 13 (by omega)
      go_wp2_with fail
      refine (counts_e (low t) _).mono ?_
      rintro e w11 ⟨rfl, b11⟩
      have q11 := b11.size
      rw [World.size_alloc] at q11
      have bel11 := (bel10.trans (b11.mono bel10.size)).alloc (by omega) (.cells #[.int .u64 (low t 0), .int .u64 (low t 1), .int .u64 (low t 2), .int .u64 (low t 3), .int .u64 (low t 4), .int .u64 (low t 5), .int .u64 (low t 6), .int .u64 (low t 7), .int .u64 (low t 8), .int .u64 (low t 9), .int .u64 (low t 10), .int .u64 (low t 11), .int .u64 (low t 12), .int .u64 (low t 13)] 29)
      have s11 := (s10.below b11 s10.lt).alloc (.cells #[.int .u64 (low t 0), .int .u64 (low t 1), .int .u64 (low t 2), .int .u64 (low t 3), .int .u64 (low t 4), .int .u64 (low t 5), .int .u64 (low t 6), .int .u64 (low t 7), .int .u64 (low t 8), .int .u64 (low t 9), .int .u64 (low t 10), .int .u64 (low t 11), .int .u64 (low t 12), .int .u64 (low t 13)] 29)
      have K11 := (K10.below b11 K10.lt).alloc (.cells #[.int .u64 (low t 0), .int .u64 (low t 1), .int .u64 (low t 2), .int .u64 (low t 3), .int .u64 (low t 4), .int .u64 (low t 5), .int .u64 (low t 6), .int .u64 (low t 7), .int .u64 (low t 8), .int .u64 (low t 9), .int .u64 (low t 10), .int .u64 (low t 11), .int .u64 (low t 12), .int .u64 (low t 13)] 29)
      have t11 := (t10.below b11 t10.lt).alloc (.cells #[.int .u64 (low t 0), .int .u64 (low t 1), .int .u64 (low t 2), .int .u64 (low t 3), .int .u64 (low t 4), .int .u64 (low t 5), .int .u64 (low t 6), .int .u64 (low t 7), .int .u64 (low t 8), .int .u64 (low t 9), .int .u64 (low t 10), .int .u64 (low t 11), .int .u64 (low t 12), .int .u64 (low t 13)] 29)
      have a11 := (a10.below b11 a10.lt).alloc (.cells #[.int .u64 (low t 0), .int .u64 (low t 1), .int .u64 (low t 2), .int .u64 (low t 3), .int .u64 (low t 4), .int .u64 (low t 5), .int .u64 (low t 6), .int .u64 (low t 7), .int .u64 (low t 8), .int .u64 (low t 9), .int .u64 (low t 10), .int .u64 (low t 11), .int .u64 (low t 12), .int .u64 (low t 13)] 29)
      have d11 := Row.laid w11 (low t) (fun j _ => low_ok t j) 29
      clear b11 bel10 s10 S10 K10 t10 a10 i0 i1 i2 i3 i4 i5 i6 i7 i8 i9 i10 i11 i12 i13 q10a
      go_upto_region 22 with fail
      go_cut [15] (fun x wx => x = .int .i64 0 ∧ Below w.heap.size w wx ∧ Row wx w8.heap.size c ∧ Row wx w3.heap.size (tot c s t) ∧ Row wx w9.heap.size (tot c s t) ∧ Row wx w10.heap.size (low s) ∧ Row wx w11.heap.size (low t))
      case first =>
        go_wp2_with fail
        go_meet
        exact ⟨rfl, bel11, s11, K11, t11, a11, d11⟩
      case rest =>
      obtain ⟨rfl, belc, sc, Kc, tc, ac, dc⟩ := hcut
      clear bel11 s11 K11 t11 a11 d11
      go_wp2_with fail
      go_loopw [15] (fun i wx => ∃ (x y : Nat), x ≤ 14 ∧ i = .int .i64 x ∧ World.drewN wc y = wx) (fun i _ => 14 - (intOf i).toNat)
      case atStart => exact ⟨0, 0, Nat.zero_le _, rfl, rfl⟩
      case round =>
        obtain ⟨x, y, hx, rfl, rfl⟩ := hrel
        by_cases hx14 : x < 14
        · have z0 := sc.cell x hx14
          have z1 := Kc.cell x hx14
          have z2 := tc.cell x hx14
          have z3 := ac.cell x hx14
          have z4 := dc.cell x hx14
          have hsum := tot_sum c s t x
          go_wp2_with fail
          go_region
          all_goals go_wp2_with fail
          go_region
          all_goals go_wp2_with fail
          go_roundw
          case rel => exact ⟨x + 1, y + 1 + 1, by omega, by go_num, rfl⟩
          case measure => simp [intOf]; omega
        · go_wp2_with fail
          go_ret
          exact ⟨rfl, below_drewN belc _⟩
end Go.Proofs.Qxb6617073a
