import Derived.Test.Qxb6616689aHd
namespace Go.Proofs.Qxb6616689a.Hd
open Go.RowKit

/-- The cells of a Decl whose File is p, and all else zero. -/
def declCells (p : Option Addr) : Array Value := #[.pointer none, .pointer p, .string ByteArray.empty, .int .i64 0, .int .i64 0, .int .i64 0, .int .i64 0, .string ByteArray.empty, .bool false, .slice none 0 0, .nilIface]

structure PInv (w wr : World) (D m k : Nat) (g : Nat → Option Addr) : Prop where
  bel : Below D w wr
  size : wr.heap.size = D + 1
  free : ∀ j, wr.frozen? ⟨D, j, none⟩ = false
  mem : ∀ i, i < m → ∀ j, j < 11 → wr.cell? ⟨D, i * 11 + j, none⟩ = (declCells (if i < k then g i else none))[j]?

theorem cells_decl (p : Option Addr) : (Value.agg (declCells p)).cells = declCells p := rfl
theorem size_decl (p : Option Addr) : (declCells p).size = 11 := rfl

theorem PInv.start (w : World) (m : Nat) (g : Nat → Option Addr) : PInv w (w.alloc (.cells (madeCells (declCells none) (m * 11)) 63)) w.heap.size m 0 g where
  bel := (Below.refl _ _).alloc (Nat.le_refl _) _
  size := by simp
  free := fun j => by simp
  mem := fun i hi j hj => by
    rw [World.cell?_alloc_new, if_neg (by omega)]
    have h1 : i * 11 + j < m * 11 := by omega
    have h2 : (i * 11 + j) % 11 = j := by omega
    unfold madeCells
    rw [Array.getElem?_map, Array.getElem?_range, if_pos h1]
    simp only [Option.map_some, size_decl, h2]
    rw [getElem!_pos (declCells none) j (by rw [size_decl]; exact hj), getElem?_pos (declCells none) j (by rw [size_decl]; exact hj)]

theorem PInv.step {w wr : World} {D m k : Nat} {g : Nat → Option Addr} (h : PInv w wr D m k g) (hk : k < m) :
    PInv w (wr.setCell ⟨D, k * 11 + 1, none⟩ (.pointer (g k))) D m (k + 1) g := by
  refine ⟨h.bel.setCell (p := ⟨D, k * 11 + 1, none⟩) (Nat.le_refl _) _, by rw [World.size_setCell]; exact h.size, fun j => by rw [World.frozen?_setCell]; exact h.free j, fun i hi j hj => ?_⟩
  by_cases hik : i = k ∧ j = 1
  · obtain ⟨rfl, rfl⟩ := hik
    have := h.mem i hi 1 (by omega)
    rw [World.cell?_setCell_same _ _ _ (this.trans rfl), if_pos (by omega)]
    rfl
  · rw [World.cell?_setCell_other _ _ _ _ (fun e => by have := congrArg Addr.off e; simp at this; omega), h.mem i hi j hj]
    by_cases e : i = k
    · subst e
      rw [if_neg (by omega), if_pos (by omega)]
      match j, hj with
      | 0, _ => rfl
      | 1, _ => exact absurd ⟨rfl, rfl⟩ hik
      | 2, _ => rfl
      | 3, _ => rfl
      | 4, _ => rfl
      | 5, _ => rfl
      | 6, _ => rfl
      | 7, _ => rfl
      | 8, _ => rfl
      | 9, _ => rfl
      | 10, _ => rfl
    · by_cases h2 : i < k
      · rw [if_pos h2, if_pos (by omega)]
      · rw [if_neg h2, if_neg (by omega)]

/-- A Package made by hdPackage: its box in block pk, its m declarations in block D. -/
structure Pkg (w : World) (pk D m : Nat) (g : Nat → Option Addr) : Prop where
  fld : w.cell? ⟨pk, 2, none⟩ = some (.slice (some ⟨D, 0, none⟩) m m)
  mem : ∀ i, i < m → ∀ j, j < 11 → w.cell? ⟨D, i * 11 + j, none⟩ = (declCells (g i))[j]?
  pkl : pk < w.heap.size
  dl : D < w.heap.size

set_option maxRecDepth 10000 in
set_option maxHeartbeats 400000 in
theorem pack_any (B n c : Nat) (a : Option Addr) (m d : Nat) (f : Nat → Int) (w : World) (hm : m ≤ 65537) (F : Files w B n) (hs : Ints w a m f w.heap.size) :
    Calls Try.prog 12 #[.slice (some ⟨B, 0, none⟩) n c, .slice a m d] w fun e w' => e = .returned (.pointer (some ⟨w.heap.size + 1, 0, none⟩)) ∧ Below w.heap.size w w' ∧ w'.heap.size = w.heap.size + 2 ∧ Pkg w' (w.heap.size + 1) w.heap.size m (fun i => fileOf B n (f i)) := by
  have hmk := run_make_n (P := Try.prog) 55 63 (.agg (declCells none)) 11 128 Try.underlying55 info63 m (by omega) (by omega)
  simp only [cells_decl] at hmk
  go_enter Try.func12, Try.ntmps12
  go_wp2
  go_loopw [6] (fun i wr => ∃ k : Nat, k ≤ m ∧ i = .int .i64 k ∧ PInv w wr w.heap.size m k (fun i => fileOf B n (f i))) (fun i _ => m - (intOf i).toNat)
  case atStart => exact ⟨0, Nat.zero_le _, rfl, PInv.start _ _ _⟩
  case round =>
    obtain ⟨k, hk, rfl, hI⟩ := hrel
    by_cases hlt : k < m
    · obtain ⟨b, off, rfl, hb2, hc⟩ := hs (by omega)
      have hcc : wr.cell? ⟨b, off + k, none⟩ = some (.int .i64 (f k)) := (hI.bel.cell (p := ⟨b, off + k, none⟩) (by show b < _; omega)).trans (hc k hlt)
      have FF := F.below hI.bel F.size
      have hf := hI.free (k * 11 + 1)
      have hv : wr.cell? ⟨w.heap.size, k * 11 + 1, none⟩ = some (.pointer none) := (hI.mem k hlt 1 (by omega)).trans (by rw [if_neg (by omega)]; rfl)
      have HI := hI.step hlt
      clear hI hc hs
      go_wp2_with (go_at_call 10; refine (file_any _ _ _ _ _ FF).mono ?_; rintro e w' ⟨rfl, rfl⟩)
      go_roundw
      case rel => exact ⟨k + 1, by omega, by go_num, HI⟩
      case measure => simp [intOf]; omega
    · have hkn : k = m := by omega
      subst hkn
      have hsz := hI.size
      go_wp2
      go_ret
      refine ⟨?_, ?_, ?_, ?_, ?_, ?_, ?_⟩
      · rfl
      · exact hI.bel.alloc (by omega) _
      · rw [World.size_alloc, hsz]
      · rw [World.cell?_alloc_at _ _ _ _ hsz.symm]; rfl
      · intro i hi j hj
        rw [World.cell?_alloc_past _ _ _ (by omega), hI.mem i hi j hj, if_pos hi]
      · rw [World.size_alloc]; omega
      · rw [World.size_alloc]; omega

theorem Pkg.below {w w' : World} {pk D m C : Nat} {g : Nat → Option Addr} (h : Pkg w pk D m g) (hb : Below C w w') (h1 : pk < C) (h2 : D < C) : Pkg w' pk D m g where
  fld := (hb.cell (p := ⟨pk, 2, none⟩) h1).trans h.fld
  mem := fun i hi j hj => (hb.cell (p := ⟨D, i * 11 + j, none⟩) h2).trans (h.mem i hi j hj)
  pkl := Nat.lt_of_lt_of_le h.pkl hb.size
  dl := Nat.lt_of_lt_of_le h.dl hb.size

set_option maxHeartbeats 400000 in
theorem clo_any (cb B n : Nat) (i q : Int) (w : World) (hcb : cb < w.heap.size) (F : Files w B n) (h : w.cell? ⟨cb, 0, none⟩ = some (.pointer (fileOf B n q))) :
    Calls Try.prog 25 #[.agg (declCells (fileOf B n i)), .pointer (some ⟨cb, 0, none⟩)] w fun e w' => e = .returned (.bool (decide (ix n i = ix n q))) ∧ Below w.heap.size w w' := by
  have hb : Below w.heap.size w (w.alloc (.cells (declCells (fileOf B n i)) 63)) := (Below.refl _ _).alloc (Nat.le_refl _) _
  have heq := run_file_eq (F.below hb F.size) i q
  unfold declCells at heq hb
  unfold declCells
  clear F
  go_enter Try.func25, Try.ntmps25
  go_wp2
  go_ret
  exact ⟨rfl, hb⟩


/-- Some declaration's file index is q's. -/
def hasB (n : Nat) (f : Nat → Int) (m : Nat) (q : Int) : Bool := (List.range m).any fun i => decide (ix n (f i) = ix n q)

theorem hasB_iff {n : Nat} {f : Nat → Int} {m : Nat} {q : Int} : hasB n f m q = true ↔ ∃ i, i < m ∧ ix n (f i) = ix n q := by
  simp [hasB]
theorem hasB_yes {n : Nat} {f : Nat → Int} {m : Nat} {q : Int} {k : Nat} (hk : k < m) (h : ix n (f k) = ix n q) : hasB n f m q = true := hasB_iff.2 ⟨k, hk, h⟩
theorem hasB_no {n : Nat} {f : Nat → Int} {m : Nat} {q : Int} (h : ∀ i, i < m → ¬ ix n (f i) = ix n q) : hasB n f m q = false := by
  rw [Bool.eq_false_iff]
  intro e
  obtain ⟨i, hi, he⟩ := hasB_iff.1 e
  exact h i hi he

/-- The number that IndexFunc hands back: not negative exactly where something was found. -/
def Found (b : Bool) (e : Ending) : Prop := ∃ r : Int, e = .returned (.int .i64 r) ∧ decide (0 ≤ r) = b
theorem found_yes {b : Bool} (k : Nat) (h : b = true) : Found b (.returned (.int .i64 k)) := ⟨k, rfl, by rw [h]; exact decide_eq_true (by omega)⟩
theorem found_no {b : Bool} (h : b = false) : Found b (.returned (.int .i64 (-1))) := ⟨-1, rfl, by rw [h]; rfl⟩

set_option maxRecDepth 10000 in
set_option maxHeartbeats 1000000 in
theorem index_any (cb pk B n D m c : Nat) (f : Nat → Int) (q : Int) (w : World) (hm : m ≤ 65537) (hcb : cb < w.heap.size) (F : Files w B n) (K : Pkg w pk D m (fun i => fileOf B n (f i)))
    (h : w.cell? ⟨cb, 0, none⟩ = some (.pointer (fileOf B n q))) :
    Calls Try.prog 27 #[.slice (some ⟨D, 0, none⟩) m c, .func (Fn.func 25) #[] #[.pointer (some ⟨cb, 0, none⟩)]] w fun e w' => Found (hasB n f m q) e ∧ Below w.heap.size w w' := by
  go_enter Try.func27, Try.ntmps27
  go_wp2
  go_loopw [8] (fun i wr => ∃ k : Nat, k ≤ m ∧ i = .int .i64 k ∧ Below w.heap.size w wr ∧ ∀ j, j < k → ¬ ix n (f j) = ix n q) (fun i _ => m - (intOf i).toNat)
  case atStart => exact ⟨0, Nat.zero_le _, rfl, Below.refl _ _, fun j hj => absurd hj (by omega)⟩
  case round =>
    obtain ⟨k, hk, rfl, hb, hall⟩ := hrel
    have hdl := K.dl
    by_cases hlt : k < m
    · have FF := F.below hb F.size
      have hcb' : cb < wr.heap.size := Nat.lt_of_lt_of_le hcb hb.size
      have hc : wr.cell? ⟨cb, 0, none⟩ = some (.pointer (fileOf B n q)) := (hb.cell (p := ⟨cb, 0, none⟩) hcb).trans h
      have KK : ∀ j, j < 11 → wr.cell? ⟨D, k * 11 + j, none⟩ = (declCells (fileOf B n (f k)))[j]? := fun j hj => (hb.cell (p := ⟨D, k * 11 + j, none⟩) hdl).trans (K.mem k hlt j hj)
      have g0 : wr.cell? ⟨D, k * 11, none⟩ = some (.pointer none) := KK 0 (by omega)
      have g1 : wr.cell? ⟨D, k * 11 + 1, none⟩ = some (.pointer (fileOf B n (f k))) := KK 1 (by omega)
      have g2 : wr.cell? ⟨D, k * 11 + 2, none⟩ = some (.string ByteArray.empty) := KK 2 (by omega)
      have g3 : wr.cell? ⟨D, k * 11 + 3, none⟩ = some (.int .i64 0) := KK 3 (by omega)
      have g4 : wr.cell? ⟨D, k * 11 + 4, none⟩ = some (.int .i64 0) := KK 4 (by omega)
      have g5 : wr.cell? ⟨D, k * 11 + 5, none⟩ = some (.int .i64 0) := KK 5 (by omega)
      have g6 : wr.cell? ⟨D, k * 11 + 6, none⟩ = some (.int .i64 0) := KK 6 (by omega)
      have g7 : wr.cell? ⟨D, k * 11 + 7, none⟩ = some (.string ByteArray.empty) := KK 7 (by omega)
      have g8 : wr.cell? ⟨D, k * 11 + 8, none⟩ = some (.bool false) := KK 8 (by omega)
      have g9 : wr.cell? ⟨D, k * 11 + 9, none⟩ = some (.slice none 0 0) := KK 9 (by omega)
      have g10 : wr.cell? ⟨D, k * 11 + 10, none⟩ = some .nilIface := KK 10 (by omega)
      clear KK
      have HA : Hid (∀ j, j < k → ¬ ix n (f j) = ix n q) := hall
      clear hall
      have HC : Hid (Calls Try.prog 25 #[.agg (declCells (fileOf B n (f k))), .pointer (some ⟨cb, 0, none⟩)] wr fun e w' => e = .returned (.bool (decide (ix n (f k) = ix n q))) ∧ Below wr.heap.size wr w') := clo_any cb B n (f k) q wr hcb' FF hc
      by_cases he : ix n (f k) = ix n q
      · have hT : hasB n f m q = true := hasB_yes hlt he
        have hd : Hid (decide (ix n (f k) = ix n q) = true) := decide_eq_true he
        clear he
        go_wp2_with fail
        refine Calls.mono HC.out ?_
        rintro e w1 ⟨rfl, hb1⟩
        rw [hd.out]
        have hb2 := hb.trans (hb1.mono hb.size)
        clear g0 g1 g2 g3 g4 g5 g6 g7 g8 g9 g10 hb1
        go_wp2_with fail
        go_ret
        exact ⟨found_yes k hT, hb2⟩
      · have hd : Hid (decide (ix n (f k) = ix n q) = false) := decide_eq_false he
        have HB : Hid (∀ j, j < k + 1 → ¬ ix n (f j) = ix n q) := fun j hj => by by_cases e : j = k; (subst e; exact he); exact HA.out j (by omega)
        clear he
        go_wp2_with fail
        refine Calls.mono HC.out ?_
        rintro e w1 ⟨rfl, hb1⟩
        rw [hd.out]
        have hb2 := hb.trans (hb1.mono hb.size)
        clear g0 g1 g2 g3 g4 g5 g6 g7 g8 g9 g10 hb1
        go_wp2_with fail
        go_roundw
        case rel => exact ⟨k + 1, by omega, by go_num, hb2, HB.out⟩
        case measure => simp [intOf]; omega
    · have hkn : k = m := by omega
      subst hkn
      have hF : hasB n f k q = false := hasB_no hall
      clear hall
      go_wp2_with fail
      go_ret
      exact ⟨found_no hF, hb⟩

theorem contains_any (cb pk B n D m c : Nat) (f : Nat → Int) (q : Int) (w : World) (hm : m ≤ 65537) (hcb : cb < w.heap.size) (F : Files w B n) (K : Pkg w pk D m (fun i => fileOf B n (f i)))
    (h : w.cell? ⟨cb, 0, none⟩ = some (.pointer (fileOf B n q))) :
    Calls Try.prog 24 #[.slice (some ⟨D, 0, none⟩) m c, .func (Fn.func 25) #[] #[.pointer (some ⟨cb, 0, none⟩)]] w fun e w' => e = .returned (.bool (hasB n f m q)) ∧ Below w.heap.size w w' := by
  go_enter Try.func24, Try.ntmps24
  go_wp2_with fail
  refine (index_any cb pk B n D m c f q w hm hcb F K h).mono ?_
  rintro e w' ⟨⟨r, rfl, hr⟩, hb⟩
  go_wp2_with fail
  go_ret
  exact ⟨rfl, hb⟩

set_option maxHeartbeats 400000 in
theorem holds_any (pk B n D m : Nat) (f : Nat → Int) (q : Int) (w : World) (hm : m ≤ 65537) (F : Files w B n) (K : Pkg w pk D m (fun i => fileOf B n (f i))) :
    Calls Try.prog 22 #[.pointer (some ⟨pk, 0, none⟩), .pointer (fileOf B n q)] w fun e w' => e = .returned (.bool (hasB n f m q)) ∧ Below w.heap.size w w' := by
  have h := K.fld
  have h' := K.pkl
  have hb : Below w.heap.size w (w.alloc (.cells #[.pointer (fileOf B n q)] 27)) := (Below.refl _ _).alloc (Nat.le_refl _) _
  have F1 := F.below hb F.size
  have K1 := K.below hb K.pkl K.dl
  clear F K
  go_enter Try.func22, Try.ntmps22
  go_wp2_with fail
  refine (contains_any w.heap.size pk B n D m m f q _ hm (by simp) F1 K1 (by simp)).mono ?_
  rintro e w' ⟨rfl, hb1⟩
  go_wp2_with fail
  go_ret
  exact ⟨rfl, hb.trans (hb1.mono (by simp))⟩

theorem zholds_any (pk B n D m : Nat) (f : Nat → Int) (q : Int) (w : World) (r : Bool) (hm : m ≤ 65537) (F : Files w B n) (K : Pkg w pk D m (fun i => fileOf B n (f i))) (hr : hasB n f m q = r) :
    Calls Try.prog 11 #[.pointer (some ⟨pk, 0, none⟩), .pointer (fileOf B n q)] w fun e w' => e = .returned (.bool r) ∧ Below w.heap.size w w' := by
  subst hr
  go_enter Try.func11, Try.ntmps11
  go_wp2_with fail
  refine (holds_any pk B n D m f q w hm F K).mono ?_
  rintro e w' ⟨rfl, hb⟩
  go_wp2_with fail
  go_ret
  exact ⟨rfl, hb⟩

set_option maxHeartbeats 400000 in
theorem ix_any (n : Nat) (i : Int) (w : World) :
    Calls Try.prog 15 #[.int .i64 n, .int .i64 i] w fun e w' => e = .returned (.int .i64 (ix n i)) ∧ w = w' := by
  by_cases h0 : i < 0
  · rw [show ix n i = -1 from if_neg (by omega)]
    go_enter Try.func15, Try.ntmps15
    go_wp2
    go_ret
    exact ⟨rfl, rfl⟩
  by_cases h1 : (n : Int) ≤ i
  · rw [show ix n i = -1 from if_neg (by omega)]
    go_enter Try.func15, Try.ntmps15
    go_wp2
    go_ret
    exact ⟨rfl, rfl⟩
  rw [show ix n i = i from if_pos (by omega)]
  go_enter Try.func15, Try.ntmps15
  go_wp2
  go_ret
  exact ⟨rfl, rfl⟩

set_option maxHeartbeats 400000 in
theorem model_any (n : Nat) (a : Option Addr) (m c hi : Nat) (f : Nat → Int) (q : Int) (w : World) (r : Bool) (hm : m ≤ 65537) (hs : Ints w a m f hi) (hr : hasB n f m q = r) :
    Calls Try.prog 13 #[.int .i64 n, .slice a m c, .int .i64 q] w fun e w' => e = .returned (.bool r) ∧ w = w' := by
  subst hr
  go_enter Try.func13, Try.ntmps13
  go_wp2_with (go_at_call 15; refine (ix_any _ _ _).mono ?_; rintro e w' ⟨rfl, rfl⟩)
  go_loop [8] (fun i => ∃ k : Nat, k ≤ m ∧ i = .int .i64 k ∧ ∀ j, j < k → ¬ ix n (f j) = ix n q) (fun i => m - (intOf i).toNat)
  case atStart => exact ⟨0, Nat.zero_le _, rfl, fun j hj => absurd hj (by omega)⟩
  case round =>
    obtain ⟨k, hk, rfl, hall⟩ := hrel
    by_cases hlt : k < m
    · obtain ⟨b, off, rfl, hb2, hc⟩ := hs (by omega)
      have hcc := hc k hlt
      have HA : Hid (∀ j, j < k → ¬ ix n (f j) = ix n q) := hall
      clear hall hc hs
      by_cases he : ix n (f k) = ix n q
      · have hT : Hid (true = hasB n f m q) := (hasB_yes hlt he).symm
        have hd : (ix n (f k) == ix n q) = true := by simpa using he
        clear he
        go_wp2_with (go_at_call 15; refine (ix_any _ _ _).mono ?_; rintro e w' ⟨rfl, rfl⟩)
        go_ret
        exact ⟨by rw [← hT.out]; rfl, rfl⟩
      · have HB : Hid (∀ j, j < k + 1 → ¬ ix n (f j) = ix n q) := fun j hj => by by_cases e : j = k; (subst e; exact he); exact HA.out j (by omega)
        have hd : (ix n (f k) == ix n q) = false := by simpa using he
        clear he
        go_wp2_with (go_at_call 15; refine (ix_any _ _ _).mono ?_; rintro e w' ⟨rfl, rfl⟩)
        go_round
        case rel => exact ⟨k + 1, by omega, by go_num, HB.out⟩
        case measure => simp [intOf]; omega
    · have hkn : k = m := by omega
      subst hkn
      have hF : Hid (false = hasB n f k q) := (hasB_no hall).symm
      clear hall
      go_wp2
      go_ret
      exact ⟨by rw [← hF.out]; rfl, rfl⟩
end Go.Proofs.Qxb6616689a.Hd
