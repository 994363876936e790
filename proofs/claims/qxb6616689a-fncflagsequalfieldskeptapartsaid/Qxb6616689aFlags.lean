import Derived.Test.Qxb6616689aStrs
namespace Go.Proofs.Qxb6616689a
open Go.RowKit

theorem equal_r (a a' : Option Addr) (n c n' c' : Nat) (f g : Nat → ByteArray) (w : World) (r : Bool) (hm : n ≤ 1048576) (hm' : n' ≤ 1048576) (lo hi lo' hi' : Nat) (hs : Strs w a n f lo hi) (hs' : Strs w a' n' g lo' hi') (hr : eqB f g n n' = r) :
    Calls Try.prog 26 #[.slice a n c, .slice a' n' c'] w fun e w' => e = .returned (.bool r) ∧ ∃ d, w.drewN d = w' := by
  subst hr
  exact equal_any a a' n c n' c' f g w hm hm' lo hi lo' hi' hs hs'

theorem bdrew {B : Nat} {a w : World} (h : Below B a w) (n : Nat) : Below B a (w.drewN n) := ⟨h.os, h.tape, h.output, h.size, h.block⟩

set_option maxHeartbeats 400000 in
theorem flags_any (a0 a1 a2 b0 b1 b2 : Option Addr) (n0 n1 n2 m0 m1 m2 c0 c1 c2 d0 d1 d2 : Nat) (f0 f1 f2 g0 g1 g2 : Nat → ByteArray) (w : World) (r : Bool)
    (hn0 : n0 ≤ 1048576) (hn1 : n1 ≤ 1048576) (hn2 : n2 ≤ 1048576) (hm0 : m0 ≤ 1048576) (hm1 : m1 ≤ 1048576) (hm2 : m2 ≤ 1048576)
    (lo hi : Nat) (hh : hi ≤ w.heap.size)
    (s0 : Strs w a0 n0 f0 lo hi) (s1 : Strs w a1 n1 f1 lo hi) (s2 : Strs w a2 n2 f2 lo hi) (t0 : Strs w b0 m0 g0 lo hi) (t1 : Strs w b1 m1 g1 lo hi) (t2 : Strs w b2 m2 g2 lo hi)
    (hr : (eqB f0 g0 n0 m0 && eqB f1 g1 n1 m1 && eqB f2 g2 n2 m2) = r) :
    Calls Try.prog 23 #[.agg #[.slice a0 n0 c0, .slice a1 n1 c1, .slice a2 n2 c2], .agg #[.slice b0 m0 d0, .slice b1 m1 d1, .slice b2 m2 d2]] w fun e w' => e = .returned (.bool r) ∧ Below w.heap.size w w' := by
  subst hr
  obtain ⟨e0, he0⟩ : ∃ e, eqB f0 g0 n0 m0 = e := ⟨_, rfl⟩
  obtain ⟨e1, he1⟩ : ∃ e, eqB f1 g1 n1 m1 = e := ⟨_, rfl⟩
  obtain ⟨e2, he2⟩ : ∃ e, eqB f2 g2 n2 m2 = e := ⟨_, rfl⟩
  rw [he0, he1, he2]
  have H0 : Hid (eqB f0 g0 n0 m0 = e0) := he0
  have H1 : Hid (eqB f1 g1 n1 m1 = e1) := he1
  have H2 : Hid (eqB f2 g2 n2 m2 = e2) := he2
  clear he0 he1 he2
  have hb : Below w.heap.size w ((w.alloc (.cells #[.slice a0 n0 c0, .slice a1 n1 c1, .slice a2 n2 c2] 40)).alloc (.cells #[.slice b0 m0 d0, .slice b1 m1 d1, .slice b2 m2 d2] 40)) :=
    ((Below.refl _ _).alloc (Nat.le_refl _) _).alloc (by simp) _
  have HS : Hid (∀ d, Strs (World.drewN ((w.alloc (.cells #[.slice a0 n0 c0, .slice a1 n1 c1, .slice a2 n2 c2] 40)).alloc (.cells #[.slice b0 m0 d0, .slice b1 m1 d1, .slice b2 m2 d2] 40)) d) a0 n0 f0 lo hi ∧
      Strs (World.drewN ((w.alloc (.cells #[.slice a0 n0 c0, .slice a1 n1 c1, .slice a2 n2 c2] 40)).alloc (.cells #[.slice b0 m0 d0, .slice b1 m1 d1, .slice b2 m2 d2] 40)) d) a1 n1 f1 lo hi ∧
      Strs (World.drewN ((w.alloc (.cells #[.slice a0 n0 c0, .slice a1 n1 c1, .slice a2 n2 c2] 40)).alloc (.cells #[.slice b0 m0 d0, .slice b1 m1 d1, .slice b2 m2 d2] 40)) d) a2 n2 f2 lo hi ∧
      Strs (World.drewN ((w.alloc (.cells #[.slice a0 n0 c0, .slice a1 n1 c1, .slice a2 n2 c2] 40)).alloc (.cells #[.slice b0 m0 d0, .slice b1 m1 d1, .slice b2 m2 d2] 40)) d) b0 m0 g0 lo hi ∧
      Strs (World.drewN ((w.alloc (.cells #[.slice a0 n0 c0, .slice a1 n1 c1, .slice a2 n2 c2] 40)).alloc (.cells #[.slice b0 m0 d0, .slice b1 m1 d1, .slice b2 m2 d2] 40)) d) b1 m1 g1 lo hi ∧
      Strs (World.drewN ((w.alloc (.cells #[.slice a0 n0 c0, .slice a1 n1 c1, .slice a2 n2 c2] 40)).alloc (.cells #[.slice b0 m0 d0, .slice b1 m1 d1, .slice b2 m2 d2] 40)) d) b2 m2 g2 lo hi) :=
    fun d => ⟨s0.below (bdrew hb d) hh, s1.below (bdrew hb d) hh, s2.below (bdrew hb d) hh, t0.below (bdrew hb d) hh, t1.below (bdrew hb d) hh, t2.below (bdrew hb d) hh⟩
  clear s0 s1 s2 t0 t1 t2
  cases e0 with
  | false =>
    go_enter Try.func23, Try.ntmps23
    go_wp2_with fail
    refine (equal_r a0 b0 n0 c0 m0 d0 f0 g0 _ false hn0 hm0 lo hi lo hi (HS.out 0).1 (HS.out 0).2.2.2.1 H0.out).mono ?_
    rintro e w' ⟨rfl, x0, rfl⟩
    go_wp2_with fail
    go_ret
    exact ⟨rfl, bdrew hb _⟩
  | true =>
  cases e1 with
  | false =>
    go_enter Try.func23, Try.ntmps23
    go_wp2_with fail
    refine (equal_r a0 b0 n0 c0 m0 d0 f0 g0 _ true hn0 hm0 lo hi lo hi (HS.out 0).1 (HS.out 0).2.2.2.1 H0.out).mono ?_
    rintro e w' ⟨rfl, x0, rfl⟩
    go_wp2_with fail
    refine (equal_r a1 b1 n1 c1 m1 d1 f1 g1 _ false hn1 hm1 lo hi lo hi (HS.out _).2.1 (HS.out _).2.2.2.2.1 H1.out).mono ?_
    rintro e w' ⟨rfl, x1, rfl⟩
    go_wp2_with fail
    go_ret
    exact ⟨rfl, bdrew hb _⟩
  | true =>
    go_enter Try.func23, Try.ntmps23
    go_wp2_with fail
    refine (equal_r a0 b0 n0 c0 m0 d0 f0 g0 _ true hn0 hm0 lo hi lo hi (HS.out 0).1 (HS.out 0).2.2.2.1 H0.out).mono ?_
    rintro e w' ⟨rfl, x0, rfl⟩
    go_wp2_with fail
    refine (equal_r a1 b1 n1 c1 m1 d1 f1 g1 _ true hn1 hm1 lo hi lo hi (HS.out _).2.1 (HS.out _).2.2.2.2.1 H1.out).mono ?_
    rintro e w' ⟨rfl, x1, rfl⟩
    go_wp2_with fail
    refine (equal_r a2 b2 n2 c2 m2 d2 f2 g2 _ e2 hn2 hm2 lo hi lo hi (HS.out _).2.2.1 (HS.out _).2.2.2.2.2 H2.out).mono ?_
    rintro e w' ⟨rfl, x2, rfl⟩
    cases e2 with
    | false =>
      go_wp2_with fail
      go_ret
      exact ⟨rfl, bdrew hb _⟩
    | true =>
      go_wp2_with fail
      go_ret
      exact ⟨rfl, bdrew hb _⟩

set_option maxHeartbeats 400000 in
theorem zflags_any (a0 a1 a2 b0 b1 b2 : Option Addr) (n0 n1 n2 m0 m1 m2 c0 c1 c2 d0 d1 d2 : Nat) (f0 f1 f2 g0 g1 g2 : Nat → ByteArray) (w : World) (r : Bool)
    (hn0 : n0 ≤ 1048576) (hn1 : n1 ≤ 1048576) (hn2 : n2 ≤ 1048576) (hm0 : m0 ≤ 1048576) (hm1 : m1 ≤ 1048576) (hm2 : m2 ≤ 1048576)
    (lo hi : Nat) (hh : hi ≤ w.heap.size)
    (s0 : Strs w a0 n0 f0 lo hi) (s1 : Strs w a1 n1 f1 lo hi) (s2 : Strs w a2 n2 f2 lo hi) (t0 : Strs w b0 m0 g0 lo hi) (t1 : Strs w b1 m1 g1 lo hi) (t2 : Strs w b2 m2 g2 lo hi)
    (hr : (eqB f0 g0 n0 m0 && eqB f1 g1 n1 m1 && eqB f2 g2 n2 m2) = r) :
    Calls Try.prog 19 #[.agg #[.slice a0 n0 c0, .slice a1 n1 c1, .slice a2 n2 c2], .agg #[.slice b0 m0 d0, .slice b1 m1 d1, .slice b2 m2 d2]] w fun e w' => e = .returned (.bool r) ∧ Below w.heap.size w w' := by
  have hb : Below w.heap.size w ((w.alloc (.cells #[.slice a0 n0 c0, .slice a1 n1 c1, .slice a2 n2 c2] 40)).alloc (.cells #[.slice b0 m0 d0, .slice b1 m1 d1, .slice b2 m2 d2] 40)) :=
    ((Below.refl _ _).alloc (Nat.le_refl _) _).alloc (by simp) _
  go_enter Try.func19, Try.ntmps19
  go_wp2_with fail
  refine (flags_any a0 a1 a2 b0 b1 b2 n0 n1 n2 m0 m1 m2 c0 c1 c2 d0 d1 d2 f0 f1 f2 g0 g1 g2 _ r hn0 hn1 hn2 hm0 hm1 hm2 lo hi (Nat.le_trans hh hb.size) (s0.below hb hh) (s1.below hb hh) (s2.below hb hh) (t0.below hb hh) (t1.below hb hh) (t2.below hb hh) hr).mono ?_
  rintro e w' ⟨rfl, hb1⟩
  go_wp2_with fail
  go_ret
  exact ⟨rfl, hb.trans (hb1.mono (by simp; omega))⟩

/-- Some bool is returned. -/
def IsBool (e : Ending) : Prop := ∃ r, e = .returned (.bool r)
theorem isBool (r : Bool) : IsBool (.returned (.bool r)) := ⟨r, rfl⟩
/-- Some bool is returned; if it is true the three lengths are at most 1<<20. -/
def Bounded (n0 n1 n2 : Nat) (e : Ending) : Prop := ∃ r, e = .returned (.bool r) ∧ (r = true → n0 ≤ 1048576 ∧ n1 ≤ 1048576 ∧ n2 ≤ 1048576)
theorem bounded_no (n0 n1 n2 : Nat) : Bounded n0 n1 n2 (.returned (.bool false)) := ⟨false, rfl, fun h => by cases h⟩
theorem bounded_yes {n0 n1 n2 : Nat} (h0 : n0 ≤ 1048576) (h1 : n1 ≤ 1048576) (h2 : n2 ≤ 1048576) : Bounded n0 n1 n2 (.returned (.bool true)) := ⟨true, rfl, fun _ => ⟨h0, h1, h2⟩⟩

set_option maxHeartbeats 2000000 in
theorem sizeok_any (a0 a1 a2 : Option Addr) (n0 n1 n2 c0 c1 c2 : Nat) (f0 f1 f2 : Nat → ByteArray) (x : Int) (w : World)
    (hn0 : n0 ≤ 1048576) (hn1 : n1 ≤ 1048576) (hn2 : n2 ≤ 1048576)
    (lo hi : Nat) (s0 : Strs w a0 n0 f0 lo hi) (s1 : Strs w a1 n1 f1 lo hi) (s2 : Strs w a2 n2 f2 lo hi) :
    Calls Try.prog 17 #[.slice a0 n0 c0, .slice a1 n1 c1, .slice a2 n2 c2, .int .i64 x] w fun e w' => IsBool e ∧ w = w' := by
  go_enter Try.func17, Try.ntmps17
  go_wp2
  go_loop [9, 10] (fun t i => ∃ (k : Nat) (y : Int), k ≤ n0 ∧ i = .int .i64 k ∧ t = .int .i64 y) (fun _ i => n0 - (intOf i).toNat)
  case atStart => exact ⟨0, _, Nat.zero_le _, rfl, rfl⟩
  case round =>
    obtain ⟨k0, y0, hk0, rfl, rfl⟩ := hrel
    by_cases hlt : k0 < n0 ∧ y0 ≤ 1048576
    · obtain ⟨hlt, hy⟩ := hlt
      obtain ⟨b, off, rfl, _, hb2, hc⟩ := s0 (by omega)
      have g0 := hc k0 hlt
      clear hc
      go_wp2
      go_round
      case rel => exact ⟨k0 + 1, _, by omega, by go_num, rfl⟩
      case measure => simp [intOf]; omega
    · by_cases hkn0 : k0 < n0
      · have hy0 : 1048576 < y0 := by omega
        clear hlt
        go_wp2
        go_loop [9, 11] (fun t i => ∃ (k : Nat) (y : Int), k ≤ n1 ∧ i = .int .i64 k ∧ t = .int .i64 y) (fun _ i => n1 - (intOf i).toNat)
        case atStart => exact ⟨0, _, Nat.zero_le _, rfl, rfl⟩
        case round =>
          obtain ⟨k1, y1, hk1, rfl, rfl⟩ := hrel
          by_cases hlt : k1 < n1 ∧ y1 ≤ 1048576
          · obtain ⟨hlt, hy⟩ := hlt
            obtain ⟨b, off, rfl, _, hb2, hc⟩ := s1 (by omega)
            have g0 := hc k1 hlt
            clear hc
            go_wp2
            go_round
            case rel => exact ⟨k1 + 1, _, by omega, by go_num, rfl⟩
            case measure => simp [intOf]; omega
          · by_cases hkn1 : k1 < n1
            · have hy1 : 1048576 < y1 := by omega
              clear hlt
              go_wp2
              go_loop [9, 12] (fun t i => ∃ (k : Nat) (y : Int), k ≤ n2 ∧ i = .int .i64 k ∧ t = .int .i64 y) (fun _ i => n2 - (intOf i).toNat)
              case atStart => exact ⟨0, _, Nat.zero_le _, rfl, rfl⟩
              case round =>
                obtain ⟨k2, y2, hk2, rfl, rfl⟩ := hrel
                by_cases hlt : k2 < n2 ∧ y2 ≤ 1048576
                · obtain ⟨hlt, hy⟩ := hlt
                  obtain ⟨b, off, rfl, _, hb2, hc⟩ := s2 (by omega)
                  have g0 := hc k2 hlt
                  clear hc
                  go_wp2
                  go_round
                  case rel => exact ⟨k2 + 1, _, by omega, by go_num, rfl⟩
                  case measure => simp [intOf]; omega
                · by_cases hkn2 : k2 < n2
                  · have hy2 : 1048576 < y2 := by omega
                    clear hlt
                    go_wp2
                    go_ret
                    exact ⟨isBool _, rfl⟩
                  · clear hlt
                    have hd2 : decide ((k2 : Int) < n2) = false := decide_eq_false (by omega)
                    go_wp2
                    go_ret
                    exact ⟨isBool _, rfl⟩
            · clear hlt
              have hd1 : decide ((k1 : Int) < n1) = false := decide_eq_false (by omega)
              go_wp2
              go_loop [9, 12] (fun t i => ∃ (k : Nat) (y : Int), k ≤ n2 ∧ i = .int .i64 k ∧ t = .int .i64 y) (fun _ i => n2 - (intOf i).toNat)
              case atStart => exact ⟨0, _, Nat.zero_le _, rfl, rfl⟩
              case round =>
                obtain ⟨k2, y2, hk2, rfl, rfl⟩ := hrel
                by_cases hlt : k2 < n2 ∧ y2 ≤ 1048576
                · obtain ⟨hlt, hy⟩ := hlt
                  obtain ⟨b, off, rfl, _, hb2, hc⟩ := s2 (by omega)
                  have g0 := hc k2 hlt
                  clear hc
                  go_wp2
                  go_round
                  case rel => exact ⟨k2 + 1, _, by omega, by go_num, rfl⟩
                  case measure => simp [intOf]; omega
                · by_cases hkn2 : k2 < n2
                  · have hy2 : 1048576 < y2 := by omega
                    clear hlt
                    go_wp2
                    go_ret
                    exact ⟨isBool _, rfl⟩
                  · clear hlt
                    have hd2 : decide ((k2 : Int) < n2) = false := decide_eq_false (by omega)
                    go_wp2
                    go_ret
                    exact ⟨isBool _, rfl⟩
      · clear hlt
        have hd0 : decide ((k0 : Int) < n0) = false := decide_eq_false (by omega)
        go_wp2
        go_loop [9, 11] (fun t i => ∃ (k : Nat) (y : Int), k ≤ n1 ∧ i = .int .i64 k ∧ t = .int .i64 y) (fun _ i => n1 - (intOf i).toNat)
        case atStart => exact ⟨0, _, Nat.zero_le _, rfl, rfl⟩
        case round =>
          obtain ⟨k1, y1, hk1, rfl, rfl⟩ := hrel
          by_cases hlt : k1 < n1 ∧ y1 ≤ 1048576
          · obtain ⟨hlt, hy⟩ := hlt
            obtain ⟨b, off, rfl, _, hb2, hc⟩ := s1 (by omega)
            have g0 := hc k1 hlt
            clear hc
            go_wp2
            go_round
            case rel => exact ⟨k1 + 1, _, by omega, by go_num, rfl⟩
            case measure => simp [intOf]; omega
          · by_cases hkn1 : k1 < n1
            · have hy1 : 1048576 < y1 := by omega
              clear hlt
              go_wp2
              go_loop [9, 12] (fun t i => ∃ (k : Nat) (y : Int), k ≤ n2 ∧ i = .int .i64 k ∧ t = .int .i64 y) (fun _ i => n2 - (intOf i).toNat)
              case atStart => exact ⟨0, _, Nat.zero_le _, rfl, rfl⟩
              case round =>
                obtain ⟨k2, y2, hk2, rfl, rfl⟩ := hrel
                by_cases hlt : k2 < n2 ∧ y2 ≤ 1048576
                · obtain ⟨hlt, hy⟩ := hlt
                  obtain ⟨b, off, rfl, _, hb2, hc⟩ := s2 (by omega)
                  have g0 := hc k2 hlt
                  clear hc
                  go_wp2
                  go_round
                  case rel => exact ⟨k2 + 1, _, by omega, by go_num, rfl⟩
                  case measure => simp [intOf]; omega
                · by_cases hkn2 : k2 < n2
                  · have hy2 : 1048576 < y2 := by omega
                    clear hlt
                    go_wp2
                    go_ret
                    exact ⟨isBool _, rfl⟩
                  · clear hlt
                    have hd2 : decide ((k2 : Int) < n2) = false := decide_eq_false (by omega)
                    go_wp2
                    go_ret
                    exact ⟨isBool _, rfl⟩
            · clear hlt
              have hd1 : decide ((k1 : Int) < n1) = false := decide_eq_false (by omega)
              go_wp2
              go_loop [9, 12] (fun t i => ∃ (k : Nat) (y : Int), k ≤ n2 ∧ i = .int .i64 k ∧ t = .int .i64 y) (fun _ i => n2 - (intOf i).toNat)
              case atStart => exact ⟨0, _, Nat.zero_le _, rfl, rfl⟩
              case round =>
                obtain ⟨k2, y2, hk2, rfl, rfl⟩ := hrel
                by_cases hlt : k2 < n2 ∧ y2 ≤ 1048576
                · obtain ⟨hlt, hy⟩ := hlt
                  obtain ⟨b, off, rfl, _, hb2, hc⟩ := s2 (by omega)
                  have g0 := hc k2 hlt
                  clear hc
                  go_wp2
                  go_round
                  case rel => exact ⟨k2 + 1, _, by omega, by go_num, rfl⟩
                  case measure => simp [intOf]; omega
                · by_cases hkn2 : k2 < n2
                  · have hy2 : 1048576 < y2 := by omega
                    clear hlt
                    go_wp2
                    go_ret
                    exact ⟨isBool _, rfl⟩
                  · clear hlt
                    have hd2 : decide ((k2 : Int) < n2) = false := decide_eq_false (by omega)
                    go_wp2
                    go_ret
                    exact ⟨isBool _, rfl⟩

set_option maxRecDepth 10000 in
set_option maxHeartbeats 2000000 in
theorem bytes20 (a0 a1 a2 : Option Addr) (n0 n1 n2 c0 c1 c2 : Nat) (f0 f1 f2 : Nat → ByteArray) (w : World) (hm0 : n0 ≤ 9223372036854775807) (hm1 : n1 ≤ 9223372036854775807) (hm2 : n2 ≤ 9223372036854775807)
    (lo hi : Nat) (s0 : Strs w a0 n0 f0 lo hi) (s1 : Strs w a1 n1 f1 lo hi) (s2 : Strs w a2 n2 f2 lo hi) :
    Calls Try.prog 20 #[.slice a0 n0 c0, .slice a1 n1 c1, .slice a2 n2 c2] w fun e w' => Bounded n0 n1 n2 e ∧ w = w' := by
  go_enter Try.func20, Try.ntmps20
  by_cases h0 : 1048576 < n0
  · go_wp2
    all_goals (go_ret; exact ⟨bounded_no _ _ _, rfl⟩)
  have h0' : n0 ≤ 1048576 := by omega
  clear h0
  go_wp2
  go_loop [6, 7, 8] (fun u t i => u = .bool false ∧ ∃ (k : Nat) (y : Int), k ≤ n0 ∧ 0 ≤ y ∧ y ≤ 1048576 ∧ i = .int .i64 k ∧ t = .int .i64 y) (fun _ _ i => n0 - (intOf i).toNat)
  case atStart => exact ⟨rfl, 0, _, Nat.zero_le _, by omega, by omega, rfl, rfl⟩
  case round =>
    obtain ⟨rfl, k0, y0, hk0, hy0, hy0', rfl, rfl⟩ := hrel
    by_cases hlt : k0 < n0
    · obtain ⟨b, off, rfl, _, hb2, hc⟩ := s0 (by omega)
      have g0 := hc k0 hlt
      clear hc
      by_cases hs1 : 1048576 < (f0 k0).size
      · go_wp2
        go_ret
        exact ⟨bounded_no _ _ _, rfl⟩
      by_cases hs2 : 1048576 < y0 + (f0 k0).size
      · go_wp2
        go_ret
        exact ⟨bounded_no _ _ _, rfl⟩
      go_wp2
      go_round
      case rel => exact ⟨rfl, k0 + 1, _, by omega, by omega, by omega, by go_num, rfl⟩
      case measure => simp [intOf]; omega
    · 
      by_cases h1 : 1048576 < n1
      · go_wp2
        all_goals (go_ret; exact ⟨bounded_no _ _ _, rfl⟩)
      have h1' : n1 ≤ 1048576 := by omega
      clear h1
      by_cases hq1 : 1048576 < y0 + n1
      · go_wp2
        go_ret
        exact ⟨bounded_no _ _ _, rfl⟩
      go_wp2
      go_loop [6, 7, 9] (fun u t i => u = .bool false ∧ ∃ (k : Nat) (y : Int), k ≤ n1 ∧ 0 ≤ y ∧ y ≤ 1048576 ∧ i = .int .i64 k ∧ t = .int .i64 y) (fun _ _ i => n1 - (intOf i).toNat)
      case atStart => exact ⟨rfl, 0, _, Nat.zero_le _, by omega, by omega, rfl, rfl⟩
      case round =>
        obtain ⟨rfl, k1, y1, hk1, hy1, hy1', rfl, rfl⟩ := hrel
        by_cases hlt : k1 < n1
        · obtain ⟨b, off, rfl, _, hb2, hc⟩ := s1 (by omega)
          have g0 := hc k1 hlt
          clear hc
          by_cases hs1 : 1048576 < (f1 k1).size
          · go_wp2
            go_ret
            exact ⟨bounded_no _ _ _, rfl⟩
          by_cases hs2 : 1048576 < y1 + (f1 k1).size
          · go_wp2
            go_ret
            exact ⟨bounded_no _ _ _, rfl⟩
          go_wp2
          go_round
          case rel => exact ⟨rfl, k1 + 1, _, by omega, by omega, by omega, by go_num, rfl⟩
          case measure => simp [intOf]; omega
        · 
          by_cases h2 : 1048576 < n2
          · go_wp2
            all_goals (go_ret; exact ⟨bounded_no _ _ _, rfl⟩)
          have h2' : n2 ≤ 1048576 := by omega
          clear h2
          by_cases hq2 : 1048576 < y1 + n2
          · go_wp2
            go_ret
            exact ⟨bounded_no _ _ _, rfl⟩
          go_wp2
          go_loop [6, 7, 10] (fun u t i => u = .bool false ∧ ∃ (k : Nat) (y : Int), k ≤ n2 ∧ 0 ≤ y ∧ y ≤ 1048576 ∧ i = .int .i64 k ∧ t = .int .i64 y) (fun _ _ i => n2 - (intOf i).toNat)
          case atStart => exact ⟨rfl, 0, _, Nat.zero_le _, by omega, by omega, rfl, rfl⟩
          case round =>
            obtain ⟨rfl, k2, y2, hk2, hy2, hy2', rfl, rfl⟩ := hrel
            by_cases hlt : k2 < n2
            · obtain ⟨b, off, rfl, _, hb2, hc⟩ := s2 (by omega)
              have g0 := hc k2 hlt
              clear hc
              by_cases hs1 : 1048576 < (f2 k2).size
              · go_wp2
                go_ret
                exact ⟨bounded_no _ _ _, rfl⟩
              by_cases hs2 : 1048576 < y2 + (f2 k2).size
              · go_wp2
                go_ret
                exact ⟨bounded_no _ _ _, rfl⟩
              go_wp2
              go_round
              case rel => exact ⟨rfl, k2 + 1, _, by omega, by omega, by omega, by go_num, rfl⟩
              case measure => simp [intOf]; omega
            · 
              go_wp2
              go_ret
              exact ⟨bounded_yes h0' h1' h2', rfl⟩

set_option maxRecDepth 10000 in
set_option maxHeartbeats 2000000 in
theorem bytes16 (a0 a1 a2 : Option Addr) (n0 n1 n2 c0 c1 c2 : Nat) (f0 f1 f2 : Nat → ByteArray) (p q : Int) (s : ByteArray) (w : World) (hm0 : n0 ≤ 9223372036854775807) (hm1 : n1 ≤ 9223372036854775807) (hm2 : n2 ≤ 9223372036854775807)
    (lo hi : Nat) (s0 : Strs w a0 n0 f0 lo hi) (s1 : Strs w a1 n1 f1 lo hi) (s2 : Strs w a2 n2 f2 lo hi) :
    Calls Try.prog 16 #[.slice a0 n0 c0, .slice a1 n1 c1, .slice a2 n2 c2, .int .i64 p, .int .i64 q, .string s] w fun e w' => Bounded n0 n1 n2 e ∧ w = w' := by
  go_enter Try.func16, Try.ntmps16
  by_cases h0 : 1048576 < n0
  · go_wp2
    all_goals (go_ret; exact ⟨bounded_no _ _ _, rfl⟩)
  have h0' : n0 ≤ 1048576 := by omega
  clear h0
  go_wp2
  go_loop [12, 13, 14] (fun u t i => u = .bool false ∧ ∃ (k : Nat) (y : Int), k ≤ n0 ∧ 0 ≤ y ∧ y ≤ 1048576 ∧ i = .int .i64 k ∧ t = .int .i64 y) (fun _ _ i => n0 - (intOf i).toNat)
  case atStart => exact ⟨rfl, 0, _, Nat.zero_le _, by omega, by omega, rfl, rfl⟩
  case round =>
    obtain ⟨rfl, k0, y0, hk0, hy0, hy0', rfl, rfl⟩ := hrel
    by_cases hlt : k0 < n0
    · obtain ⟨b, off, rfl, _, hb2, hc⟩ := s0 (by omega)
      have g0 := hc k0 hlt
      clear hc
      by_cases hs1 : 1048576 < (f0 k0).size
      · go_wp2
        go_ret
        exact ⟨bounded_no _ _ _, rfl⟩
      by_cases hs2 : 1048576 < y0 + (f0 k0).size
      · go_wp2
        go_ret
        exact ⟨bounded_no _ _ _, rfl⟩
      go_wp2
      go_round
      case rel => exact ⟨rfl, k0 + 1, _, by omega, by omega, by omega, by go_num, rfl⟩
      case measure => simp [intOf]; omega
    · 
      by_cases h1 : 1048576 < n1
      · go_wp2
        all_goals (go_ret; exact ⟨bounded_no _ _ _, rfl⟩)
      have h1' : n1 ≤ 1048576 := by omega
      clear h1
      by_cases hq1 : 1048576 < y0 + n1
      · go_wp2
        go_ret
        exact ⟨bounded_no _ _ _, rfl⟩
      go_wp2
      go_loop [12, 13, 15] (fun u t i => u = .bool false ∧ ∃ (k : Nat) (y : Int), k ≤ n1 ∧ 0 ≤ y ∧ y ≤ 1048576 ∧ i = .int .i64 k ∧ t = .int .i64 y) (fun _ _ i => n1 - (intOf i).toNat)
      case atStart => exact ⟨rfl, 0, _, Nat.zero_le _, by omega, by omega, rfl, rfl⟩
      case round =>
        obtain ⟨rfl, k1, y1, hk1, hy1, hy1', rfl, rfl⟩ := hrel
        by_cases hlt : k1 < n1
        · obtain ⟨b, off, rfl, _, hb2, hc⟩ := s1 (by omega)
          have g0 := hc k1 hlt
          clear hc
          by_cases hs1 : 1048576 < (f1 k1).size
          · go_wp2
            go_ret
            exact ⟨bounded_no _ _ _, rfl⟩
          by_cases hs2 : 1048576 < y1 + (f1 k1).size
          · go_wp2
            go_ret
            exact ⟨bounded_no _ _ _, rfl⟩
          go_wp2
          go_round
          case rel => exact ⟨rfl, k1 + 1, _, by omega, by omega, by omega, by go_num, rfl⟩
          case measure => simp [intOf]; omega
        · 
          by_cases h2 : 1048576 < n2
          · go_wp2
            all_goals (go_ret; exact ⟨bounded_no _ _ _, rfl⟩)
          have h2' : n2 ≤ 1048576 := by omega
          clear h2
          by_cases hq2 : 1048576 < y1 + n2
          · go_wp2
            go_ret
            exact ⟨bounded_no _ _ _, rfl⟩
          go_wp2
          go_loop [12, 13, 16] (fun u t i => u = .bool false ∧ ∃ (k : Nat) (y : Int), k ≤ n2 ∧ 0 ≤ y ∧ y ≤ 1048576 ∧ i = .int .i64 k ∧ t = .int .i64 y) (fun _ _ i => n2 - (intOf i).toNat)
          case atStart => exact ⟨rfl, 0, _, Nat.zero_le _, by omega, by omega, rfl, rfl⟩
          case round =>
            obtain ⟨rfl, k2, y2, hk2, hy2, hy2', rfl, rfl⟩ := hrel
            by_cases hlt : k2 < n2
            · obtain ⟨b, off, rfl, _, hb2, hc⟩ := s2 (by omega)
              have g0 := hc k2 hlt
              clear hc
              by_cases hs1 : 1048576 < (f2 k2).size
              · go_wp2
                go_ret
                exact ⟨bounded_no _ _ _, rfl⟩
              by_cases hs2 : 1048576 < y2 + (f2 k2).size
              · go_wp2
                go_ret
                exact ⟨bounded_no _ _ _, rfl⟩
              go_wp2
              go_round
              case rel => exact ⟨rfl, k2 + 1, _, by omega, by omega, by omega, by go_num, rfl⟩
              case measure => simp [intOf]; omega
            · 
              by_cases hs : 1048576 < s.size
              · go_wp2
                go_ret
                exact ⟨bounded_no _ _ _, rfl⟩
              by_cases hs' : 1048576 < y2 + s.size
              · go_wp2
                go_ret
                exact ⟨bounded_no _ _ _, rfl⟩
              go_wp2
              go_ret
              exact ⟨bounded_yes h0' h1' h2', rfl⟩

end Go.Proofs.Qxb6616689a
