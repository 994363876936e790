import Derived.Test.Qxb6616689aHdPkg
namespace Go.Proofs.Qxb6616689a.Hd
open Go.RowKit

theorem bytes_cut (a : Option Addr) (m c : Nat) (n p q : Int) (w : World) (hn : m ≤ 1048576) :
    Calls Try.prog 7 #[.int .i64 n, .slice a m c, .int .i64 p, .int .i64 q] w fun e w' => e = .returned (.bool true) ∧ w = w' := by
  go_enter Try.func7, Try.ntmps7
  go_wp2
  go_ret
  exact ⟨rfl, rfl⟩
theorem bytes_cut_no (a : Option Addr) (m c : Nat) (n p q : Int) (w : World) (hn : 1048576 < m) :
    Calls Try.prog 7 #[.int .i64 n, .slice a m c, .int .i64 p, .int .i64 q] w fun e w' => e = .returned (.bool false) ∧ w = w' := by
  go_enter Try.func7, Try.ntmps7
  go_wp2
  go_ret
  exact ⟨rfl, rfl⟩

theorem cut_early (a : Option Addr) (m c : Nat) (n p q : Int) (w : World) (h : 65536 < m ∨ (n < 0 ∨ 65536 < n) ∨ (p < 0 ∨ (m : Int) < p)) :
    Calls Try.prog 3 #[.int .i64 n, .slice a m c, .int .i64 p, .int .i64 q] w fun e w' => e = .returned (.bool true) ∧ Below w.heap.size w w' := by
  by_cases hb : 1048576 < m
  · go_enter Try.func3, Try.ntmps3
    go_wp2_with (go_at_call 7; refine (bytes_cut_no _ _ _ _ _ _ _ hb).mono ?_; rintro e w' ⟨rfl, rfl⟩)
    go_ret
    exact ⟨rfl, Below.refl _ _⟩
  by_cases h1 : 65536 < m
  · go_enter Try.func3, Try.ntmps3
    go_wp2_with (go_at_call 7; refine (bytes_cut _ _ _ _ _ _ _ (by omega)).mono ?_; rintro e w' ⟨rfl, rfl⟩)
    go_ret
    exact ⟨rfl, Below.refl _ _⟩
  by_cases h2 : n < 0
  · go_enter Try.func3, Try.ntmps3
    go_wp2_with (go_at_call 7; refine (bytes_cut _ _ _ _ _ _ _ (by omega)).mono ?_; rintro e w' ⟨rfl, rfl⟩)
    go_ret
    exact ⟨rfl, Below.refl _ _⟩
  by_cases h3 : 65536 < n
  · go_enter Try.func3, Try.ntmps3
    go_wp2_with (go_at_call 7; refine (bytes_cut _ _ _ _ _ _ _ (by omega)).mono ?_; rintro e w' ⟨rfl, rfl⟩)
    go_ret
    exact ⟨rfl, Below.refl _ _⟩
  by_cases h4 : p < 0
  · go_enter Try.func3, Try.ntmps3
    go_wp2_with (go_at_call 7; refine (bytes_cut _ _ _ _ _ _ _ (by omega)).mono ?_; rintro e w' ⟨rfl, rfl⟩)
    go_ret
    exact ⟨rfl, Below.refl _ _⟩
  have h5 : (m : Int) < p := by omega
  clear h
  go_enter Try.func3, Try.ntmps3
  go_wp2_with (go_at_call 7; refine (bytes_cut _ _ _ _ _ _ _ (by omega)).mono ?_; rintro e w' ⟨rfl, rfl⟩)
  go_ret
  exact ⟨rfl, Below.refl _ _⟩

theorem Ints.widen {w : World} {a : Option Addr} {n : Nat} {f : Nat → Int} {hi hi' : Nat} (h : Ints w a n f hi) (hh : hi ≤ hi') : Ints w a n f hi' := by
  intro hn
  obtain ⟨b, off, ha, h2, h3⟩ := h hn
  exact ⟨b, off, ha, by omega, h3⟩
theorem Ints.take {w : World} {a : Option Addr} {m k : Nat} {f : Nat → Int} {hi : Nat} (h : Ints w a m f hi) (hk : k ≤ m) : Ints w a k f hi := by
  intro hn
  obtain ⟨b, off, ha, h2, h3⟩ := h (by omega)
  exact ⟨b, off, ha, h2, fun i hi => h3 i (by omega)⟩
theorem Ints.drop {w : World} {a : Option Addr} {b off m k : Nat} {f : Nat → Int} {hi : Nat} (h : Ints w (some ⟨b, off, none⟩) m f hi) (ha : 0 < m - k → a = some ⟨b, off + k, none⟩) : Ints w a (m - k) (fun i => f (k + i)) hi := by
  intro hn
  obtain ⟨b', off', e, h2, h3⟩ := h (by omega)
  cases e
  exact ⟨b, off + k, ha hn, h2, fun i hi => by rw [Nat.add_assoc]; exact h3 (k + i) (by omega)⟩

theorem hasB_cut (n : Nat) (f : Nat → Int) (m k : Nat) (q : Int) (h : k ≤ m) : hasB n f m q = (hasB n f k q || hasB n (fun i => f (k + i)) (m - k) q) := by
  rw [Bool.eq_iff_iff, Bool.or_eq_true, hasB_iff, hasB_iff, hasB_iff]
  constructor
  · rintro ⟨i, hi, he⟩
    by_cases hik : i < k
    · exact .inl ⟨i, hik, he⟩
    · exact .inr ⟨i - k, by omega, by rw [show k + (i - k) = i by omega]; exact he⟩
  · rintro (⟨i, hi, he⟩ | ⟨i, hi, he⟩)
    · exact ⟨i, by omega, he⟩
    · exact ⟨k + i, by omega, he⟩

set_option maxHeartbeats 1000000 in
theorem cut_main (a : Addr) (m c n k : Nat) (q : Int) (f : Nat → Int) (w : World) (hm : m ≤ 65536) (hn : n ≤ 65536) (hk : k ≤ m) (hs : Ints w (some a) m f w.heap.size)
    (rp rs : Bool) (hp : hasB n f k q = rp) (hq : hasB n (fun i => f (k + i)) (m - k) q = rs) :
    Calls Try.prog 3 #[.int .i64 n, .slice (some a) m c, .int .i64 k, .int .i64 q] w fun e w' => e = .returned (.bool true) ∧ Below w.heap.size w w' := by
  have ha : Hid (hasB n f m q = (rp || rs)) := by rw [← hp, ← hq]; exact hasB_cut n f m k q hk
  have HP : Hid (hasB n f k q = rp) := hp
  have HQ : Hid (hasB n (fun i => f (k + i)) (m - k) q = rs) := hq
  clear hp hq
  go_enter Try.func3, Try.ntmps3
  go_wp2_with fail
  refine (bytes_cut _ _ _ _ _ _ _ (by omega)).mono ?_
  rintro e w' ⟨rfl, rfl⟩
  go_wp2_with fail
  refine (clone_some a m c f w hm hs).mono ?_
  rintro e w1 ⟨rfl, b1, z1, r1⟩
  have R1 : Ints w1 (some ⟨w.heap.size, 0, none⟩) m f w1.heap.size := fun _ => ⟨_, 0, rfl, by omega, fun i hi => by simpa using r1 i hi⟩
  have z1' : w.heap.size < w1.heap.size := by omega
  clear hs r1 z1
  go_wp2_with fail
  refine (files_any n w1 hn).mono ?_
  rintro e w2 ⟨rfl, b2, F2⟩
  have bb2 := b1.trans (b2.mono (by omega))
  have z2 := F2.size
  have R2 := R1.below b2 (Nat.le_refl _)
  clear b1 b2 R1
  go_wp2_with fail
  refine (file_any w1.heap.size n n q w2 F2).mono ?_
  rintro e w' ⟨rfl, rfl⟩
  go_wp2_with fail
  refine (pack_any w1.heap.size n n _ m m f w2 (by omega) F2 (R2.widen (by omega))).mono ?_
  rintro e w3 ⟨rfl, b3, z3, K3⟩
  have F3 := F2.below b3 F2.size
  have R3 := R2.below b3 (by omega)
  have y3 := b3.size
  have bb3 := bb2.trans (b3.mono (by omega))
  clear z3 b3 F2 R2 bb2
  go_wp2_with fail
  refine (zholds_any _ w1.heap.size n _ m f q w3 (rp || rs) (by omega) F3 K3 ha.out).mono ?_
  rintro e w4 ⟨rfl, b4⟩
  have F4 := F3.below b4 F3.size
  have R4 := R3.below b4 (by omega)
  have y4 := b4.size
  have bb4 := bb3.trans (b4.mono (by omega))
  clear b4 F3 R3 bb3 K3
  go_wp2_with fail
  refine (pack_any w1.heap.size n n _ k m f w4 (by omega) F4 ((R4.take hk).widen (by omega))).mono ?_
  rintro e w5 ⟨rfl, b5, z5, K5⟩
  have F5 := F4.below b5 F4.size
  have R5 := R4.below b5 (by omega)
  have y5 := b5.size
  have bb5 := bb4.trans (b5.mono (by omega))
  clear z5 b5 F4 R4 bb4
  go_wp2_with fail
  refine (zholds_any _ w1.heap.size n _ k f q w5 rp (by omega) F5 K5 HP.out).mono ?_
  rintro e w6 ⟨rfl, b6⟩
  have F6 := F5.below b6 F5.size
  have R6 := R5.below b6 (by omega)
  have y6 := b6.size
  have bb6 := bb5.trans (b6.mono (by omega))
  clear b6 F5 R5 bb5 K5
  by_cases hkm : k < m
  · go_wp2_with fail
    refine (pack_any w1.heap.size n n _ (m - k) _ (fun i => f (k + i)) w6 (by omega) F6 ((Ints.drop (R6.widen (by omega)) (fun _ => by rw [Nat.zero_add])))).mono ?_
    rintro e w7 ⟨rfl, b7, z7, K7⟩
    have F7 := F6.below b7 F6.size
    have R7 := R6.below b7 (by omega)
    have y7 := b7.size
    have bb7 := bb6.trans (b7.mono (by omega))
    clear z7 b7 F6 R6 bb6
    go_wp2_with fail
    refine (zholds_any _ w1.heap.size n _ (m - k) (fun i => f (k + i)) q w7 rs (by omega) F7 K7 HQ.out).mono ?_
    rintro e w8 ⟨rfl, b8⟩
    have F8 := F7.below b8 F7.size
    have R8 := R7.below b8 (by omega)
    have y8 := b8.size
    have bb8 := bb7.trans (b8.mono (by omega))
    clear b8 F7 R7 bb7 K7
    go_wp2_with fail
    refine (model_any n _ m m _ f q w8 (rp || rs) (by omega) R8 ha.out).mono ?_
    rintro e w' ⟨rfl, rfl⟩
    cases rp with
    | true =>
      go_wp2_with fail
      go_ret
      exact ⟨rfl, bb8⟩
    | false =>
      go_wp2_with fail
      go_ret
      exact ⟨rfl, bb8⟩
  · have hkm' : k = m := by omega
    subst hkm'
    have HQ0 : Hid (hasB n (fun i => f (k + i)) 0 q = rs) := by have h := HQ.out; rw [Nat.sub_self] at h; exact h
    go_wp2_with fail
    refine (pack_any w1.heap.size n n _ 0 _ (fun i => f (k + i)) w6 (by omega) F6 ((fun h => absurd h (by omega)))).mono ?_
    rintro e w7 ⟨rfl, b7, z7, K7⟩
    have F7 := F6.below b7 F6.size
    have R7 := R6.below b7 (by omega)
    have y7 := b7.size
    have bb7 := bb6.trans (b7.mono (by omega))
    clear z7 b7 F6 R6 bb6
    go_wp2_with fail
    refine (zholds_any _ w1.heap.size n _ 0 (fun i => f (k + i)) q w7 rs (by omega) F7 K7 HQ0.out).mono ?_
    rintro e w8 ⟨rfl, b8⟩
    have F8 := F7.below b8 F7.size
    have R8 := R7.below b8 (by omega)
    have y8 := b8.size
    have bb8 := bb7.trans (b8.mono (by omega))
    clear b8 F7 R7 bb7 K7
    go_wp2_with fail
    refine (model_any n _ k k _ f q w8 (rp || rs) (by omega) R8 ha.out).mono ?_
    rintro e w' ⟨rfl, rfl⟩
    cases rp with
    | true =>
      go_wp2_with fail
      go_ret
      exact ⟨rfl, bb8⟩
    | false =>
      go_wp2_with fail
      go_ret
      exact ⟨rfl, bb8⟩

set_option maxHeartbeats 1000000 in
theorem cut_nil (n : Nat) (q : Int) (w : World) (hn : n ≤ 65536) :
    Calls Try.prog 3 #[.int .i64 n, .slice none 0 0, .int .i64 0, .int .i64 q] w fun e w' => e = .returned (.bool true) ∧ Below w.heap.size w w' := by
  go_enter Try.func3, Try.ntmps3
  go_wp2_with fail
  refine (bytes_cut _ _ _ _ _ _ _ (by omega)).mono ?_
  rintro e w' ⟨rfl, rfl⟩
  go_wp2_with fail
  refine (clone_nil w).mono ?_
  rintro e w' ⟨rfl, rfl⟩
  go_wp2_with fail
  refine (files_any n w hn).mono ?_
  rintro e w2 ⟨rfl, bb2, F2⟩
  have y2 := bb2.size
  go_wp2_with fail
  refine (file_any w.heap.size n n q w2 F2).mono ?_
  rintro e w' ⟨rfl, rfl⟩
  go_wp2_with fail
  refine (pack_any w.heap.size n n none 0 0 (fun _ => 0) w2 (by omega) F2 (fun h => absurd h (by omega))).mono ?_
  rintro e w3 ⟨rfl, b3, z3, K3⟩
  have F3 := F2.below b3 F2.size
  have y3 := b3.size
  have bb3 := bb2.trans (b3.mono (by omega))
  clear z3 b3 F2 bb2
  go_wp2_with fail
  refine (zholds_any _ w.heap.size n _ 0 (fun _ => 0) q w3 false (by omega) F3 K3 rfl).mono ?_
  rintro e w4 ⟨rfl, b4⟩
  have F4 := F3.below b4 F3.size
  have y4 := b4.size
  have bb4 := bb3.trans (b4.mono (by omega))
  clear b4 F3 bb3 K3
  go_wp2_with fail
  refine (pack_any w.heap.size n n none 0 0 (fun _ => 0) w4 (by omega) F4 (fun h => absurd h (by omega))).mono ?_
  rintro e w5 ⟨rfl, b5, z5, K5⟩
  have F5 := F4.below b5 F4.size
  have y5 := b5.size
  have bb5 := bb4.trans (b5.mono (by omega))
  clear z5 b5 F4 bb4
  go_wp2_with fail
  refine (zholds_any _ w.heap.size n _ 0 (fun _ => 0) q w5 false (by omega) F5 K5 rfl).mono ?_
  rintro e w6 ⟨rfl, b6⟩
  have F6 := F5.below b6 F5.size
  have y6 := b6.size
  have bb6 := bb5.trans (b6.mono (by omega))
  clear b6 F5 bb5 K5
  go_wp2_with fail
  refine (pack_any w.heap.size n n none 0 0 (fun _ => 0) w6 (by omega) F6 (fun h => absurd h (by omega))).mono ?_
  rintro e w7 ⟨rfl, b7, z7, K7⟩
  have F7 := F6.below b7 F6.size
  have y7 := b7.size
  have bb7 := bb6.trans (b7.mono (by omega))
  clear z7 b7 F6 bb6
  go_wp2_with fail
  refine (zholds_any _ w.heap.size n _ 0 (fun _ => 0) q w7 false (by omega) F7 K7 rfl).mono ?_
  rintro e w8 ⟨rfl, b8⟩
  have F8 := F7.below b8 F7.size
  have y8 := b8.size
  have bb8 := bb7.trans (b8.mono (by omega))
  clear b8 F7 bb7 K7
  go_wp2_with fail
  refine (model_any n none 0 0 0 (fun _ => 0) q w8 false (by omega) (fun h => absurd h (by omega)) rfl).mono ?_
  rintro e w' ⟨rfl, rfl⟩
  go_wp2_with fail
  go_ret
  exact ⟨rfl, bb8⟩
end Go.Proofs.Qxb6616689a.Hd
