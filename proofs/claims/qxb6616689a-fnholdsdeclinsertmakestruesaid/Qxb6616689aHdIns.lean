import Derived.Test.Qxb6616689aHdInsA
namespace Go.Proofs.Qxb6616689a.Hd
open Go.RowKit


theorem hasB_end (n : Nat) (f : Nat → Int) (k : Nat) (q o : Int) : hasB n (ins f k q) (k + 1) o = (hasB n f k o || (ix n o == ix n q)) := by
  have h := hasB_ins n f k k q o (Nat.le_refl _)
  rw [Nat.sub_self] at h
  exact h

set_option maxRecDepth 10000 in
set_option maxHeartbeats 1000000 in
theorem ins_main (a : Addr) (m c n k : Nat) (q o : Int) (f : Nat → Int) (w : World) (hm : m ≤ 65536) (hn : n ≤ 65536) (hk : k < m) (hs : Ints w (some a) m f w.heap.size)
    (rb : Bool) (hb : hasB n f m o = rb) :
    Calls Try.prog 4 #[.int .i64 n, .slice (some a) m c, .int .i64 k, .int .i64 q, .int .i64 o] w fun e w' => e = .returned (.bool true) ∧ Below w.heap.size w w' := by
  have HB : Hid (hasB n f m o = rb) := hb
  have HQ : Hid (hasB n (ins f k q) (k + 1 + (m - k)) q = true) := (hasB_ins n f m k q q (by omega)).trans (by simp)
  have HO : Hid (hasB n (ins f k q) (k + 1 + (m - k)) o = (rb || (ix n o == ix n q))) := (hasB_ins n f m k q o (by omega)).trans (by rw [hb])
  clear hb
  obtain ⟨i0, hi, hz0, hz1, hz2⟩ := info_parts info3
  have Hz0 : Hid (i0.zero = some (.int .i64 0)) := hz0
  have Hz1 : Hid (i0.size = 1) := hz1
  have Hz2 : Hid (i0.bytes = 8) := hz2
  have HI : Hid (Try.prog.info? 3 = some i0) := hi
  clear hz0 hz1 hz2 hi
  go_enter Try.func4, Try.ntmps4
  go_wp2_with fail
  refine (bytes_ins _ _ _ _ _ _ _ _ (by omega)).mono ?_
  rintro e w' ⟨rfl, rfl⟩
  go_wp2_with fail
  refine (clone_some a m c f w hm hs).mono ?_
  rintro e w1 ⟨rfl, b1, z1, r1⟩
  have R1 : Ints w1 (some ⟨w.heap.size, 0, none⟩) m f w1.heap.size := fun _ => ⟨_, 0, rfl, by omega, fun i hi => by simpa using r1 i hi⟩
  have z1' : w.heap.size < w1.heap.size := by omega
  clear hs r1 z1
  go_wp2_with fail
  refine (files_any n w1 hn).mono ?_
  rintro e w2 ⟨rfl, b2, F2⟩
  have bb2 := b1.trans (b2.mono (by omega))
  have z2 := F2.size
  have R2 := R1.below b2 (Nat.le_refl _)
  clear b1 b2 R1
  go_wp2_with (first | (at_make; refine wpList_make_own _ rfl _ _ 22 rfl w2.heap.size 3 i0 (.int .i64 0) 1 Try.underlying22 HI.out Hz0.out Hz1.out .i64 .i64 _ (m + 1) rfl rfl (by omega) (by rw [Hz2.out]; omega) (by unfold maxLen; omega) (Nat.le_refl _) ?_; intro w3 own3 gr3; have bw3 := (Below.refl w2.heap.size w2).grown gr3 (Nat.le_refl _) (fun _ h => by cases h); have y3 := gr3.size) | (at_builtin; refine wpList_append_fits_any _ rfl (.tmp 50) (.tmp 53) 22 rfl w2.heap.size 3 i0 1 Try.underlying22 HI.out Hz1.out w2.heap.size 0 (m + 1) [] rfl own3 _ _ _ (rowOf f k) rfl (by rw [length_rowOf, Nat.mul_one]) (fun h => by cases h) (src_of (R2.take (Nat.le_of_lt hk)) bw3 (by omega)) (rowOf_one _ _) (by omega) ?_; intro w4 own4 gr4; simp only [Nat.zero_add, List.nil_append] at own4; have bw4 := bw3.grown gr4 y3 (fun _ h => by cases h; exact Nat.le_refl _); have y4 := gr4.size) | (at_builtin; (refine wpList_append_fits _ rfl (.tmp 55) (.tmp 57) 22 rfl w2.heap.size 3 i0 1 Try.underlying22 HI.out Hz1.out w2.heap.size k (m + 1) (rowOf f k) rfl (own4.alloc _) ⟨w4.heap.size, 0, none⟩ 1 1 [.int .i64 q] rfl rfl (cell_one_new _ _ _) (by intro u hu; simp at hu; subst hu; rfl) (by omega) ?_); intro w5 own5 gr5; have bw5 := (bw4.alloc (by omega) (.cells #[.int .i64 q] 3)).grown gr5 (by rw [World.size_alloc]; omega) (fun _ h => by cases h; exact Nat.le_refl _); have y5 : w4.heap.size + 1 ≤ w5.heap.size := by have := gr5.size; rw [World.size_alloc] at this; exact this) | (at_builtin; (refine wpList_append_fits_any _ rfl (.tmp 59) (.tmp 62) 22 rfl w2.heap.size 3 i0 1 Try.underlying22 HI.out Hz1.out w2.heap.size (k + 1) (m + 1) (rowOf f k ++ [.int .i64 q]) rfl own5 _ _ _ (rowOf (fun i => f (k + i)) (m - k)) rfl (by rw [length_rowOf, Nat.mul_one]) (fun h => by cases h) (src_of (Ints.drop R2 (fun _ => by rw [Nat.zero_add])) bw5 (by omega)) (rowOf_one _ _) (by omega) ?_); intro w6 own6 gr6; have bw6 := bw5.grown gr6 (by omega) (fun _ h => by cases h; exact Nat.le_refl _); have y6 := gr6.size))
  have F6 := F2.below bw6 F2.size
  have R6 := R2.below bw6 (by omega)
  have G6 : Ints w6 (some ⟨w2.heap.size, 0, none⟩) (k + 1 + (m - k)) (ins f k q) (w2.heap.size + 1) := ins_row own6 (by omega)
  have bb6 := bb2.trans (bw6.mono (by omega))
  have y6' : w2.heap.size + 1 ≤ w6.heap.size := by omega
  clear own3 own4 own5 own6 gr3 gr4 gr5 gr6 bw3 bw4 bw5 bw6 F2 R2 bb2
  refine (file_any w1.heap.size n n q w6 F6).mono ?_
  rintro e w' ⟨rfl, rfl⟩
  go_wp2_with fail
  refine (file_any w1.heap.size n n o w6 F6).mono ?_
  rintro e w' ⟨rfl, rfl⟩
  go_wp2_with fail
  refine (pack_any w1.heap.size n n _ m m f w6 (by omega) F6 (R6.widen (by omega))).mono ?_
  rintro e w7 ⟨rfl, b7, z7, K7⟩
  have F7 := F6.below b7 F6.size
  have R7 := R6.below b7 (by omega)
  have G7 := G6.below b7 (by omega)
  have y7 := b7.size
  have bb7 := bb6.trans (b7.mono (by omega))
  clear z7 b7 F6 R6 G6 bb6
  go_wp2_with fail
  refine (zholds_any _ w1.heap.size n _ m f o w7 rb (by omega) F7 K7 HB.out).mono ?_
  rintro e w8 ⟨rfl, b8⟩
  have F8 := F7.below b8 F7.size
  have R8 := R7.below b8 (by omega)
  have G8 := G7.below b8 (by omega)
  have y8 := b8.size
  have bb8 := bb7.trans (b8.mono (by omega))
  clear b8 F7 R7 G7 bb7 K7
  go_wp2_with fail
  refine (pack_any w1.heap.size n n _ (k + 1 + (m - k)) _ (ins f k q) w8 (by omega) F8 (G8.widen (by omega))).mono ?_
  rintro e w9 ⟨rfl, b9, z9, K9⟩
  have F9 := F8.below b9 F8.size
  have R9 := R8.below b9 (by omega)
  have G9 := G8.below b9 (by omega)
  have y9 := b9.size
  have bb9 := bb8.trans (b9.mono (by omega))
  clear z9 b9 F8 R8 G8 bb8
  go_wp2_with fail
  refine (zholds_any _ w1.heap.size n _ (k + 1 + (m - k)) (ins f k q) q w9 true (by omega) F9 K9 HQ.out).mono ?_
  rintro e w10 ⟨rfl, b10⟩
  have F10 := F9.below b10 F9.size
  have R10 := R9.below b10 (by omega)
  have G10 := G9.below b10 (by omega)
  have y10 := b10.size
  have bb10 := bb9.trans (b10.mono (by omega))
  clear b10 F9 R9 G9 bb9 K9
  go_wp2_with fail
  refine (pack_any w1.heap.size n n _ (k + 1 + (m - k)) _ (ins f k q) w10 (by omega) F10 (G10.widen (by omega))).mono ?_
  rintro e w11 ⟨rfl, b11, z11, K11⟩
  have F11 := F10.below b11 F10.size
  have R11 := R10.below b11 (by omega)
  have G11 := G10.below b11 (by omega)
  have y11 := b11.size
  have bb11 := bb10.trans (b11.mono (by omega))
  clear z11 b11 F10 R10 G10 bb10
  go_wp2_with fail
  refine (zholds_any _ w1.heap.size n _ (k + 1 + (m - k)) (ins f k q) o w11 (rb || (ix n o == ix n q)) (by omega) F11 K11 HO.out).mono ?_
  rintro e w12 ⟨rfl, b12⟩
  have F12 := F11.below b12 F11.size
  have R12 := R11.below b12 (by omega)
  have G12 := G11.below b12 (by omega)
  have y12 := b12.size
  have bb12 := bb11.trans (b12.mono (by omega))
  clear b12 F11 R11 G11 bb11 K11
  cases rb with
  | true =>
    go_wp2_with fail
    refine (model_any n _ m m _ f o w12 true (by omega) R12 HB.out).mono ?_
    rintro e w' ⟨rfl, rfl⟩
    go_wp2_with fail
    go_ret
    exact ⟨rfl, bb12⟩
  | false =>
    go_wp2_with fail
    refine (model_any n _ m m _ f o w12 false (by omega) R12 HB.out).mono ?_
    rintro e w' ⟨rfl, rfl⟩
    go_wp2_with fail
    refine (ix_any n o w12).mono ?_
    rintro e w' ⟨rfl, rfl⟩
    go_wp2_with fail
    refine (ix_any n q w12).mono ?_
    rintro e w' ⟨rfl, rfl⟩
    go_wp2_with fail
    go_ret
    exact ⟨rfl, bb12⟩

set_option maxRecDepth 10000 in
set_option maxHeartbeats 1000000 in
theorem ins_end (a : Addr) (c n k : Nat) (q o : Int) (f : Nat → Int) (w : World) (hm : k ≤ 65536) (hn : n ≤ 65536) (hs : Ints w (some a) k f w.heap.size)
    (rb : Bool) (hb : hasB n f k o = rb) :
    Calls Try.prog 4 #[.int .i64 n, .slice (some a) k c, .int .i64 k, .int .i64 q, .int .i64 o] w fun e w' => e = .returned (.bool true) ∧ Below w.heap.size w w' := by
  have HB : Hid (hasB n f k o = rb) := hb
  have HQ : Hid (hasB n (ins f k q) (k + 1) q = true) := (hasB_end n f k q q).trans (by simp)
  have HO : Hid (hasB n (ins f k q) (k + 1) o = (rb || (ix n o == ix n q))) := (hasB_end n f k q o).trans (by rw [hb])
  clear hb
  obtain ⟨i0, hi, hz0, hz1, hz2⟩ := info_parts info3
  have Hz0 : Hid (i0.zero = some (.int .i64 0)) := hz0
  have Hz1 : Hid (i0.size = 1) := hz1
  have Hz2 : Hid (i0.bytes = 8) := hz2
  have HI : Hid (Try.prog.info? 3 = some i0) := hi
  clear hz0 hz1 hz2 hi
  go_enter Try.func4, Try.ntmps4
  go_wp2_with fail
  refine (bytes_ins _ _ _ _ _ _ _ _ (by omega)).mono ?_
  rintro e w' ⟨rfl, rfl⟩
  go_wp2_with fail
  refine (clone_some a k c f w hm hs).mono ?_
  rintro e w1 ⟨rfl, b1, z1, r1⟩
  have R1 : Ints w1 (some ⟨w.heap.size, 0, none⟩) k f w1.heap.size := fun _ => ⟨_, 0, rfl, by omega, fun i hi => by simpa using r1 i hi⟩
  have z1' : w.heap.size < w1.heap.size := by omega
  clear hs r1 z1
  go_wp2_with fail
  refine (files_any n w1 hn).mono ?_
  rintro e w2 ⟨rfl, b2, F2⟩
  have bb2 := b1.trans (b2.mono (by omega))
  have z2 := F2.size
  have R2 := R1.below b2 (Nat.le_refl _)
  clear b1 b2 R1
  go_wp2_with (first | (at_make; refine wpList_make_own _ rfl _ _ 22 rfl w2.heap.size 3 i0 (.int .i64 0) 1 Try.underlying22 HI.out Hz0.out Hz1.out .i64 .i64 _ (k + 1) rfl rfl (by omega) (by rw [Hz2.out]; omega) (by unfold maxLen; omega) (Nat.le_refl _) ?_; intro w3 own3 gr3; have bw3 := (Below.refl w2.heap.size w2).grown gr3 (Nat.le_refl _) (fun _ h => by cases h); have y3 := gr3.size) | (at_builtin; refine wpList_append_fits_any _ rfl (.tmp 50) (.tmp 53) 22 rfl w2.heap.size 3 i0 1 Try.underlying22 HI.out Hz1.out w2.heap.size 0 (k + 1) [] rfl own3 _ _ _ (rowOf f k) rfl (by rw [length_rowOf, Nat.mul_one]) (fun h => by cases h) (src_of R2 bw3 (by omega)) (rowOf_one _ _) (by omega) ?_; intro w4 own4 gr4; simp only [Nat.zero_add, List.nil_append] at own4; have bw4 := bw3.grown gr4 y3 (fun _ h => by cases h; exact Nat.le_refl _); have y4 := gr4.size) | (at_builtin; (refine wpList_append_fits _ rfl (.tmp 55) (.tmp 57) 22 rfl w2.heap.size 3 i0 1 Try.underlying22 HI.out Hz1.out w2.heap.size k (k + 1) (rowOf f k) rfl (own4.alloc _) ⟨w4.heap.size, 0, none⟩ 1 1 [.int .i64 q] rfl rfl (cell_one_new _ _ _) (by intro u hu; simp at hu; subst hu; rfl) (by omega) ?_); intro w5 own5 gr5; have bw5 := (bw4.alloc (by omega) (.cells #[.int .i64 q] 3)).grown gr5 (by rw [World.size_alloc]; omega) (fun _ h => by cases h; exact Nat.le_refl _); have y5 : w4.heap.size + 1 ≤ w5.heap.size := by have := gr5.size; rw [World.size_alloc] at this; exact this) | (at_builtin; (refine wpList_append_fits_any _ rfl (.tmp 59) (.tmp 62) 22 rfl w2.heap.size 3 i0 1 Try.underlying22 HI.out Hz1.out w2.heap.size (k + 1) (k + 1) (rowOf f k ++ [.int .i64 q]) rfl own5 _ _ _ [] rfl (by simp) (fun h => by cases h) (fun _ _ j u h => by cases h) (fun u h => by cases h) (by omega) ?_); intro w6 own6 gr6; simp only [Nat.add_zero, List.append_nil] at own6; have bw6 := bw5.grown gr6 (by omega) (fun _ h => by cases h; exact Nat.le_refl _); have y6 := gr6.size))
  have F6 := F2.below bw6 F2.size
  have R6 := R2.below bw6 (by omega)
  have G6 : Ints w6 (some ⟨w2.heap.size, 0, none⟩) (k + 1) (ins f k q) (w2.heap.size + 1) := ins_row (r := 0) (by simpa [rowOf] using own6) (by omega)
  have bb6 := bb2.trans (bw6.mono (by omega))
  have y6' : w2.heap.size + 1 ≤ w6.heap.size := by omega
  clear own3 own4 own5 own6 gr3 gr4 gr5 gr6 bw3 bw4 bw5 bw6 F2 R2 bb2
  refine (file_any w1.heap.size n n q w6 F6).mono ?_
  rintro e w' ⟨rfl, rfl⟩
  go_wp2_with fail
  refine (file_any w1.heap.size n n o w6 F6).mono ?_
  rintro e w' ⟨rfl, rfl⟩
  go_wp2_with fail
  refine (pack_any w1.heap.size n n _ k k f w6 (by omega) F6 (R6.widen (by omega))).mono ?_
  rintro e w7 ⟨rfl, b7, z7, K7⟩
  have F7 := F6.below b7 F6.size
  have R7 := R6.below b7 (by omega)
  have G7 := G6.below b7 (by omega)
  have y7 := b7.size
  have bb7 := bb6.trans (b7.mono (by omega))
  clear z7 b7 F6 R6 G6 bb6
  go_wp2_with fail
  refine (zholds_any _ w1.heap.size n _ k f o w7 rb (by omega) F7 K7 HB.out).mono ?_
  rintro e w8 ⟨rfl, b8⟩
  have F8 := F7.below b8 F7.size
  have R8 := R7.below b8 (by omega)
  have G8 := G7.below b8 (by omega)
  have y8 := b8.size
  have bb8 := bb7.trans (b8.mono (by omega))
  clear b8 F7 R7 G7 bb7 K7
  go_wp2_with fail
  refine (pack_any w1.heap.size n n _ (k + 1) _ (ins f k q) w8 (by omega) F8 (G8.widen (by omega))).mono ?_
  rintro e w9 ⟨rfl, b9, z9, K9⟩
  have F9 := F8.below b9 F8.size
  have R9 := R8.below b9 (by omega)
  have G9 := G8.below b9 (by omega)
  have y9 := b9.size
  have bb9 := bb8.trans (b9.mono (by omega))
  clear z9 b9 F8 R8 G8 bb8
  go_wp2_with fail
  refine (zholds_any _ w1.heap.size n _ (k + 1) (ins f k q) q w9 true (by omega) F9 K9 HQ.out).mono ?_
  rintro e w10 ⟨rfl, b10⟩
  have F10 := F9.below b10 F9.size
  have R10 := R9.below b10 (by omega)
  have G10 := G9.below b10 (by omega)
  have y10 := b10.size
  have bb10 := bb9.trans (b10.mono (by omega))
  clear b10 F9 R9 G9 bb9 K9
  go_wp2_with fail
  refine (pack_any w1.heap.size n n _ (k + 1) _ (ins f k q) w10 (by omega) F10 (G10.widen (by omega))).mono ?_
  rintro e w11 ⟨rfl, b11, z11, K11⟩
  have F11 := F10.below b11 F10.size
  have R11 := R10.below b11 (by omega)
  have G11 := G10.below b11 (by omega)
  have y11 := b11.size
  have bb11 := bb10.trans (b11.mono (by omega))
  clear z11 b11 F10 R10 G10 bb10
  go_wp2_with fail
  refine (zholds_any _ w1.heap.size n _ (k + 1) (ins f k q) o w11 (rb || (ix n o == ix n q)) (by omega) F11 K11 HO.out).mono ?_
  rintro e w12 ⟨rfl, b12⟩
  have F12 := F11.below b12 F11.size
  have R12 := R11.below b12 (by omega)
  have G12 := G11.below b12 (by omega)
  have y12 := b12.size
  have bb12 := bb11.trans (b12.mono (by omega))
  clear b12 F11 R11 G11 bb11 K11
  cases rb with
  | true =>
    go_wp2_with fail
    refine (model_any n _ k k _ f o w12 true (by omega) R12 HB.out).mono ?_
    rintro e w' ⟨rfl, rfl⟩
    go_wp2_with fail
    go_ret
    exact ⟨rfl, bb12⟩
  | false =>
    go_wp2_with fail
    refine (model_any n _ k k _ f o w12 false (by omega) R12 HB.out).mono ?_
    rintro e w' ⟨rfl, rfl⟩
    go_wp2_with fail
    refine (ix_any n o w12).mono ?_
    rintro e w' ⟨rfl, rfl⟩
    go_wp2_with fail
    refine (ix_any n q w12).mono ?_
    rintro e w' ⟨rfl, rfl⟩
    go_wp2_with fail
    go_ret
    exact ⟨rfl, bb12⟩

set_option maxRecDepth 10000 in
set_option maxHeartbeats 1000000 in
theorem ins_nil (n : Nat) (q o : Int) (w : World) (hn : n ≤ 65536) :
    Calls Try.prog 4 #[.int .i64 n, .slice none 0 0, .int .i64 0, .int .i64 q, .int .i64 o] w fun e w' => e = .returned (.bool true) ∧ Below w.heap.size w w' := by
  have HB : Hid (hasB n (fun _ => 0) 0 o = false) := rfl
  have HQ : Hid (hasB n (ins (fun _ => 0) 0 q) (0 + 1) q = true) := (hasB_end n (fun _ => 0) 0 q q).trans (by simp)
  have HO : Hid (hasB n (ins (fun _ => 0) 0 q) (0 + 1) o = (false || (ix n o == ix n q))) := hasB_end n (fun _ => 0) 0 q o
  obtain ⟨i0, hi, hz0, hz1, hz2⟩ := info_parts info3
  have Hz0 : Hid (i0.zero = some (.int .i64 0)) := hz0
  have Hz1 : Hid (i0.size = 1) := hz1
  have Hz2 : Hid (i0.bytes = 8) := hz2
  have HI : Hid (Try.prog.info? 3 = some i0) := hi
  clear hz0 hz1 hz2 hi
  go_enter Try.func4, Try.ntmps4
  go_wp2_with fail
  refine (bytes_ins _ _ _ _ _ _ _ _ (by omega)).mono ?_
  rintro e w' ⟨rfl, rfl⟩
  go_wp2_with fail
  refine (clone_nil w).mono ?_
  rintro e w' ⟨rfl, rfl⟩
  go_wp2_with fail
  refine (files_any n w hn).mono ?_
  rintro e w2 ⟨rfl, b2, F2⟩
  have bb2 := b2
  have z2 := F2.size
  have R2 : Ints w2 none 0 (fun _ => 0) 0 := fun h => absurd h (by omega)
  clear b2
  go_wp2_with (first | (at_make; refine wpList_make_own _ rfl _ _ 22 rfl w2.heap.size 3 i0 (.int .i64 0) 1 Try.underlying22 HI.out Hz0.out Hz1.out .i64 .i64 _ 1 rfl rfl (by omega) (by rw [Hz2.out]; omega) (by unfold maxLen; omega) (Nat.le_refl _) ?_; intro w3 own3 gr3; have bw3 := (Below.refl w2.heap.size w2).grown gr3 (Nat.le_refl _) (fun _ h => by cases h); have y3 := gr3.size) | (at_builtin; refine wpList_append_fits_any _ rfl (.tmp 50) (.tmp 53) 22 rfl w2.heap.size 3 i0 1 Try.underlying22 HI.out Hz1.out w2.heap.size 0 1 [] rfl own3 _ _ _ [] rfl (by simp) (fun _ => ⟨rfl, rfl⟩) (fun _ _ j u h => by cases h) (fun u h => by cases h) (by omega) ?_; intro w4 own4 gr4; simp only [Nat.zero_add, List.nil_append] at own4; have bw4 := bw3.grown gr4 y3 (fun _ h => by cases h; exact Nat.le_refl _); have y4 := gr4.size) | (at_builtin; (refine wpList_append_fits _ rfl (.tmp 55) (.tmp 57) 22 rfl w2.heap.size 3 i0 1 Try.underlying22 HI.out Hz1.out w2.heap.size 0 1 [] rfl (own4.alloc _) ⟨w4.heap.size, 0, none⟩ 1 1 [.int .i64 q] rfl rfl (cell_one_new _ _ _) (by intro u hu; simp at hu; subst hu; rfl) (by omega) ?_); intro w5 own5 gr5; simp only [Nat.zero_add, List.nil_append] at own5; have bw5 := (bw4.alloc (by omega) (.cells #[.int .i64 q] 3)).grown gr5 (by rw [World.size_alloc]; omega) (fun _ h => by cases h; exact Nat.le_refl _); have y5 : w4.heap.size + 1 ≤ w5.heap.size := by have := gr5.size; rw [World.size_alloc] at this; exact this) | (at_builtin; (refine wpList_append_fits_any _ rfl (.tmp 59) (.tmp 62) 22 rfl w2.heap.size 3 i0 1 Try.underlying22 HI.out Hz1.out w2.heap.size 1 1 [.int .i64 q] rfl own5 _ _ _ [] rfl (by simp) (fun _ => ⟨rfl, rfl⟩) (fun _ _ j u h => by cases h) (fun u h => by cases h) (by omega) ?_); intro w6 own6 gr6; simp only [Nat.add_zero, List.append_nil] at own6; have bw6 := bw5.grown gr6 (by omega) (fun _ h => by cases h; exact Nat.le_refl _); have y6 := gr6.size))
  have F6 := F2.below bw6 F2.size
  have R6 := R2.below bw6 (by omega)
  have G6 : Ints w6 (some ⟨w2.heap.size, 0, none⟩) 1 (ins (fun _ => 0) 0 q) (w2.heap.size + 1) := ins_row (k := 0) (r := 0) (f := fun _ => 0) (by simpa [rowOf] using own6) (by omega)
  have bb6 := bb2.trans (bw6.mono (by omega))
  have y6' : w2.heap.size + 1 ≤ w6.heap.size := by omega
  clear own3 own4 own5 own6 gr3 gr4 gr5 gr6 bw3 bw4 bw5 bw6 F2 R2 bb2
  refine (file_any w.heap.size n n q w6 F6).mono ?_
  rintro e w' ⟨rfl, rfl⟩
  go_wp2_with fail
  refine (file_any w.heap.size n n o w6 F6).mono ?_
  rintro e w' ⟨rfl, rfl⟩
  go_wp2_with fail
  refine (pack_any w.heap.size n n none 0 0 (fun _ => 0) w6 (by omega) F6 (R6.widen (by omega))).mono ?_
  rintro e w7 ⟨rfl, b7, z7, K7⟩
  have F7 := F6.below b7 F6.size
  have R7 := R6.below b7 (by omega)
  have G7 := G6.below b7 (by omega)
  have y7 := b7.size
  have bb7 := bb6.trans (b7.mono (by omega))
  clear z7 b7 F6 R6 G6 bb6
  go_wp2_with fail
  refine (zholds_any _ w.heap.size n _ 0 (fun _ => 0) o w7 false (by omega) F7 K7 HB.out).mono ?_
  rintro e w8 ⟨rfl, b8⟩
  have F8 := F7.below b8 F7.size
  have R8 := R7.below b8 (by omega)
  have G8 := G7.below b8 (by omega)
  have y8 := b8.size
  have bb8 := bb7.trans (b8.mono (by omega))
  clear b8 F7 R7 G7 bb7 K7
  go_wp2_with fail
  refine (pack_any w.heap.size n n _ 1 _ (ins (fun _ => 0) 0 q) w8 (by omega) F8 (G8.widen (by omega))).mono ?_
  rintro e w9 ⟨rfl, b9, z9, K9⟩
  have F9 := F8.below b9 F8.size
  have R9 := R8.below b9 (by omega)
  have G9 := G8.below b9 (by omega)
  have y9 := b9.size
  have bb9 := bb8.trans (b9.mono (by omega))
  clear z9 b9 F8 R8 G8 bb8
  go_wp2_with fail
  refine (zholds_any _ w.heap.size n _ 1 (ins (fun _ => 0) 0 q) q w9 true (by omega) F9 K9 HQ.out).mono ?_
  rintro e w10 ⟨rfl, b10⟩
  have F10 := F9.below b10 F9.size
  have R10 := R9.below b10 (by omega)
  have G10 := G9.below b10 (by omega)
  have y10 := b10.size
  have bb10 := bb9.trans (b10.mono (by omega))
  clear b10 F9 R9 G9 bb9 K9
  go_wp2_with fail
  refine (pack_any w.heap.size n n _ 1 _ (ins (fun _ => 0) 0 q) w10 (by omega) F10 (G10.widen (by omega))).mono ?_
  rintro e w11 ⟨rfl, b11, z11, K11⟩
  have F11 := F10.below b11 F10.size
  have R11 := R10.below b11 (by omega)
  have G11 := G10.below b11 (by omega)
  have y11 := b11.size
  have bb11 := bb10.trans (b11.mono (by omega))
  clear z11 b11 F10 R10 G10 bb10
  go_wp2_with fail
  refine (zholds_any _ w.heap.size n _ 1 (ins (fun _ => 0) 0 q) o w11 (false || (ix n o == ix n q)) (by omega) F11 K11 HO.out).mono ?_
  rintro e w12 ⟨rfl, b12⟩
  have F12 := F11.below b12 F11.size
  have R12 := R11.below b12 (by omega)
  have G12 := G11.below b12 (by omega)
  have y12 := b12.size
  have bb12 := bb11.trans (b12.mono (by omega))
  clear b12 F11 R11 G11 bb11 K11
  go_wp2_with fail
  refine (model_any n none 0 0 0 (fun _ => 0) o w12 false (by omega) R12 HB.out).mono ?_
  rintro e w' ⟨rfl, rfl⟩
  go_wp2_with fail
  refine (ix_any n o w12).mono ?_
  rintro e w' ⟨rfl, rfl⟩
  go_wp2_with fail
  refine (ix_any n q w12).mono ?_
  rintro e w' ⟨rfl, rfl⟩
  go_wp2_with fail
  go_ret
  exact ⟨rfl, bb12⟩
end Go.Proofs.Qxb6616689a.Hd
