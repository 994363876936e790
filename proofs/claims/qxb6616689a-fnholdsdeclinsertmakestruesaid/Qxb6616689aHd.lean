import Derived.Test.Qxb6616689aRows
import Derived.WalkKit
import Derived.WalkSpells
import Derived.WalkLawsBesides
import Derived.Deep.QuietTactic
import Derived.BigQuiet
import Derived.LaidEqlPtr
namespace Go.Proofs.Qxb6616689a.Hd
open Go.RowKit

theorem run_make_n {P : Program} (t e : TypeId) (z : Value) (size bytes : Nat) (ht : P.underlying t = some (.slice e)) (hi : (P.info? e).map (fun i => (i.zero, i.size, i.bytes)) = some (some z, size, bytes))
    (n : Nat) (hb : (bytes : Int) * n ≤ 281474976710656) (hn : (n : Int) ≤ 9223372036854775807) (w : World) :
    (Instr.makeSlice t (.int .i64 n) (.int .i64 n)).run P w = .ok (.slice (some ⟨w.heap.size, 0, none⟩) n n) (w.alloc (.cells (madeCells z.cells (n * size)) e)) := by
  obtain ⟨i, h1, h2, h3, h4⟩ := info_parts hi
  subst h3; subst h4
  have := run_make (P := P) w t e i z ht h1 h2 .i64 .i64 n n (by omega) (by omega) hb hn
  simpa using this

theorem info3 : (Try.prog.info? 3).map (fun i => (i.zero, i.size, i.bytes)) = some (some (.int .i64 0), 1, 8) := by kernel_rfl
theorem info27 : (Try.prog.info? 27).map (fun i => (i.zero, i.size, i.bytes)) = some (some (.pointer none), 1, 8) := by kernel_rfl
theorem info63 : (Try.prog.info? 63).map (fun i => (i.zero, i.size, i.bytes)) = some (some (.agg #[.pointer none, .pointer none, .string ByteArray.empty, .int .i64 0, .int .i64 0, .int .i64 0, .int .i64 0, .string ByteArray.empty, .bool false, .slice none 0 0, .nilIface]), 11, 128) := by kernel_rfl
theorem info53 : (Try.prog.info? 53).map (fun i => decide (i.size ≠ 0)) = some true := by kernel_rfl

/-- The slice at 'a' of 'n' elements reads the numbers f 0, .., f (n - 1); its row lies in a block below hi. -/
def Ints (w : World) (a : Option Addr) (n : Nat) (f : Nat → Int) (hi : Nat) : Prop :=
  0 < n → ∃ b off, a = some ⟨b, off, none⟩ ∧ b < hi ∧ ∀ i, i < n → w.cell? ⟨b, off + i, none⟩ = some (.int .i64 (f i))

theorem Ints.below {w w' : World} {a : Option Addr} {n : Nat} {f : Nat → Int} {hi B : Nat} (h : Ints w a n f hi) (hb : Below B w w') (hB : hi ≤ B) : Ints w' a n f hi := by
  intro hn
  obtain ⟨b, off, ha, h2, h3⟩ := h hn
  exact ⟨b, off, ha, h2, fun i hi => (hb.cell (p := ⟨b, off + i, none⟩) (by show b < B; omega)).trans (h3 i hi)⟩

/-- What holds at the head of round k of hdClone's loop. -/
structure CInv (w wr : World) (B n k : Nat) (f : Nat → Int) : Prop where
  bel : Below B w wr
  size : wr.heap.size = B + 1
  mem : ∀ j, j < n → (∃ v, wr.cell? ⟨B, j, none⟩ = some v) ∧ wr.frozen? ⟨B, j, none⟩ = false
  done : ∀ j, j < k → wr.cell? ⟨B, j, none⟩ = some (.int .i64 (f j))

theorem CInv.start (w : World) (n : Nat) (f : Nat → Int) : CInv w (w.alloc (.cells (madeCells #[.int .i64 0] n) 3)) w.heap.size n 0 f where
  bel := (Below.refl _ _).alloc (Nat.le_refl _) _
  size := by simp
  mem := fun j hj => by simp [madeCells, hj]
  done := fun j hj => absurd hj (by omega)

theorem CInv.step {w wr : World} {B n k : Nat} {f : Nat → Int} (h : CInv w wr B n k f) (hk : k < n) :
    CInv w (wr.setCell ⟨B, k, none⟩ (.int .i64 (f k))) B n (k + 1) f := by
  obtain ⟨⟨v, hv⟩, hf⟩ := h.mem k hk
  refine ⟨h.bel.setCell (p := ⟨B, k, none⟩) (Nat.le_refl _) _, by rw [World.size_setCell]; exact h.size, fun j hj => ?_, fun j hj => ?_⟩
  · obtain ⟨⟨u, hu⟩, hfu⟩ := h.mem j hj
    refine ⟨?_, by simpa using hfu⟩
    by_cases hjk : j = k
    · subst hjk; exact ⟨_, World.cell?_setCell_same _ _ _ hv⟩
    · rw [World.cell?_setCell_other _ _ _ _ (fun h => by cases h; omega)]; exact ⟨u, hu⟩
  · by_cases hjk : j = k
    · subst hjk; exact World.cell?_setCell_same _ _ _ hv
    · rw [World.cell?_setCell_other _ _ _ _ (fun h => by cases h; omega)]; exact h.done j (by omega)

set_option maxHeartbeats 400000 in
theorem clone_some (a : Addr) (n c : Nat) (f : Nat → Int) (w : World) (hm : n ≤ 65536) (hs : Ints w (some a) n f w.heap.size) :
    Calls Try.prog 8 #[.slice (some a) n c] w fun e w' => e = .returned (.slice (some ⟨w.heap.size, 0, none⟩) n n) ∧ Below w.heap.size w w' ∧ w'.heap.size = w.heap.size + 1 ∧ ∀ i, i < n → w'.cell? ⟨w.heap.size, i, none⟩ = some (.int .i64 (f i)) := by
  have hmk := run_make_n (P := Try.prog) 22 3 (.int .i64 0) 1 8 Try.underlying22 info3 n (by omega) (by omega)
  simp only [Value.cells, Nat.mul_one] at hmk
  have hne := fun (w : World) => Lib.run_eql_slice_nil (P := Try.prog) w 22 3 (some a) n c 0 0 Try.underlying22
  go_enter Try.func8, Try.ntmps8
  go_wp2
  go_loopw [4] (fun i wr => ∃ k : Nat, k ≤ n ∧ i = .int .i64 k ∧ CInv w wr w.heap.size n k f) (fun i _ => n - (intOf i).toNat)
  case atStart => exact ⟨0, Nat.zero_le _, rfl, CInv.start _ _ _⟩
  case round =>
    obtain ⟨k, hk, rfl, hI⟩ := hrel
    by_cases hlt : k < n
    · obtain ⟨b, off, hae, hb2, hc⟩ := hs (by omega)
      cases hae
      have hcc : wr.cell? ⟨b, off + k, none⟩ = some (.int .i64 (f k)) := (hI.bel.cell (p := ⟨b, off + k, none⟩) (by show b < _; omega)).trans (hc k hlt)
      obtain ⟨⟨v, hv⟩, hf⟩ := hI.mem k hlt
      have HI : Hid (CInv w (wr.setCell ⟨w.heap.size, k, none⟩ (.int .i64 (f k))) w.heap.size n (k + 1) f) := hI.step hlt
      clear hI hs hc
      go_wp2
      go_roundw
      case rel => exact ⟨k + 1, by omega, by go_num, HI.out⟩
      case measure => simp [intOf]; omega
    · have hkn : k = n := by omega
      subst hkn
      go_wp2
      go_ret
      exact ⟨rfl, hI.bel, hI.size, hI.done⟩

theorem clone_nil (w : World) :
    Calls Try.prog 8 #[.slice none 0 0] w fun e w' => e = .returned (.slice none 0 0) ∧ w = w' := by
  have hne := fun (w : World) => Lib.run_eql_slice_nil (P := Try.prog) w 22 3 none 0 0 0 0 Try.underlying22
  go_enter Try.func8, Try.ntmps8
  go_wp2
  go_ret
  exact ⟨rfl, rfl⟩

/-- n files made by hdFiles: their pointers in block B, the j-th file in block B + 1 + j. -/
structure Files (w : World) (B n : Nat) : Prop where
  ptr : ∀ j, j < n → w.cell? ⟨B, j, none⟩ = some (.pointer (some ⟨B + 1 + j, 0, none⟩))
  blk : ∀ j, j < n → ∃ c, w.heap[B + 1 + j]? = some (.cells c 53 (0, 0))
  size : B + 1 + n ≤ w.heap.size

theorem Files.below {w w' : World} {B n C : Nat} (h : Files w B n) (hb : Below C w w') (hC : B + 1 + n ≤ C) : Files w' B n where
  ptr := fun j hj => (hb.cell (p := ⟨B, j, none⟩) (by show B < C; omega)).trans (h.ptr j hj)
  blk := fun j hj => by obtain ⟨c, hc⟩ := h.blk j hj; exact ⟨c, (hb.block _ (by omega)).trans hc⟩
  size := Nat.le_trans h.size hb.size

structure FInv (w wr : World) (B n k : Nat) : Prop where
  bel : Below B w wr
  size : wr.heap.size = B + 1 + k
  mem : ∀ j, j < n → (∃ v, wr.cell? ⟨B, j, none⟩ = some v) ∧ wr.frozen? ⟨B, j, none⟩ = false
  ptr : ∀ j, j < k → wr.cell? ⟨B, j, none⟩ = some (.pointer (some ⟨B + 1 + j, 0, none⟩))
  blk : ∀ j, j < k → ∃ c, wr.heap[B + 1 + j]? = some (.cells c 53 (0, 0))

theorem FInv.start (w : World) (n : Nat) : FInv w (w.alloc (.cells (madeCells #[.pointer none] n) 27)) w.heap.size n 0 where
  bel := (Below.refl _ _).alloc (Nat.le_refl _) _
  size := by simp
  mem := fun j hj => by simp [madeCells, hj]
  ptr := fun j hj => absurd hj (by omega)
  blk := fun j hj => absurd hj (by omega)

theorem FInv.step {w wr : World} {B n k : Nat} (h : FInv w wr B n k) (hk : k < n) (c : Array Value) :
    FInv w ((wr.setCell ⟨B, k, none⟩ (.pointer (some ⟨wr.heap.size, 0, none⟩))).alloc (.cells c 53)) B n (k + 1) := by
  obtain ⟨⟨v, hv⟩, hf⟩ := h.mem k hk
  have hs := h.size
  refine ⟨(h.bel.setCell (p := ⟨B, k, none⟩) (Nat.le_refl _) _).alloc (by rw [World.size_setCell]; omega) _, by rw [World.size_alloc, World.size_setCell]; omega, fun j hj => ?_, fun j hj => ?_, fun j hj => ?_⟩
  · obtain ⟨⟨u, hu⟩, hfu⟩ := h.mem j hj
    rw [World.cell?_alloc_past _ _ _ (by rw [World.size_setCell]; omega), World.frozen?_alloc_past _ _ _ (by rw [World.size_setCell]; omega)]
    refine ⟨?_, by simpa using hfu⟩
    by_cases hjk : j = k
    · subst hjk; exact ⟨_, World.cell?_setCell_same _ _ _ hv⟩
    · rw [World.cell?_setCell_other _ _ _ _ (fun h => by cases h; omega)]; exact ⟨u, hu⟩
  · rw [World.cell?_alloc_past _ _ _ (by rw [World.size_setCell]; omega)]
    by_cases hjk : j = k
    · subst hjk; rw [World.cell?_setCell_same _ _ _ hv, hs]
    · rw [World.cell?_setCell_other _ _ _ _ (fun h => by cases h; omega)]; exact h.ptr j (by omega)
  · by_cases hjk : j = k
    · subst hjk
      refine ⟨c, ?_⟩
      have : B + 1 + j = (wr.setCell ⟨B, j, none⟩ (.pointer (some ⟨wr.heap.size, 0, none⟩))).heap.size := by rw [World.size_setCell]; omega
      rw [this]; exact heap_alloc_new _ _
    · obtain ⟨c', hc'⟩ := h.blk j (by omega)
      refine ⟨c', ?_⟩
      rw [Below.heap_alloc _ _ _ (by rw [World.size_setCell]; omega), Below.heap_setCell _ _ _ _ (by show B + 1 + j ≠ B; omega)]
      exact hc'

set_option maxRecDepth 10000 in
set_option maxHeartbeats 400000 in
theorem files_any (n : Nat) (w : World) (hm : n ≤ 65536) :
    Calls Try.prog 9 #[.int .i64 n] w fun e w' => e = .returned (.slice (some ⟨w.heap.size, 0, none⟩) n n) ∧ Below w.heap.size w w' ∧ Files w' w.heap.size n := by
  have hmk := run_make_n (P := Try.prog) 25 27 (.pointer none) 1 8 Try.underlying25 info27 n (by omega) (by omega)
  simp only [Value.cells, Nat.mul_one] at hmk
  go_enter Try.func9, Try.ntmps9
  go_wp2
  go_loopw [4] (fun i wr => ∃ k : Nat, k ≤ n ∧ i = .int .i64 k ∧ FInv w wr w.heap.size n k) (fun i _ => n - (intOf i).toNat)
  case atStart => exact ⟨0, Nat.zero_le _, rfl, FInv.start _ _⟩
  case round =>
    obtain ⟨k, hk, rfl, hI⟩ := hrel
    by_cases hlt : k < n
    · obtain ⟨⟨v, hv⟩, hf⟩ := hI.mem k hlt
      have hsz : w.heap.size < wr.heap.size := by have := hI.size; omega
      have HI : Hid (FInv w wr w.heap.size n k) := hI
      clear hI
      go_wp2
      go_roundw
      case rel => exact ⟨k + 1, by omega, by go_num, HI.out.step hlt _⟩
      case measure => simp [intOf]; omega
    · have hkn : k = n := by omega
      subst hkn
      go_wp2
      go_ret
      exact ⟨rfl, hI.bel, hI.ptr, hI.blk, Nat.le_of_eq hI.size.symm⟩

/-- The file of index i: its pointer, or nil outside 0..n-1. -/
def fileOf (B n : Nat) (i : Int) : Option Addr := if 0 ≤ i ∧ i < n then some ⟨B + 1 + i.toNat, 0, none⟩ else none

theorem fileOf_in {B n k : Nat} (h : k < n) : fileOf B n (k : Int) = some ⟨B + 1 + k, 0, none⟩ := by
  unfold fileOf; rw [if_pos (by omega)]; rfl
theorem fileOf_out {B n : Nat} {i : Int} (h : ¬ (0 ≤ i ∧ i < n)) : fileOf B n i = none := by
  unfold fileOf; rw [if_neg h]

set_option maxHeartbeats 400000 in
theorem file_any (B n c : Nat) (i : Int) (w : World) (F : Files w B n) :
    Calls Try.prog 10 #[.slice (some ⟨B, 0, none⟩) n c, .int .i64 i] w fun e w' => e = .returned (.pointer (fileOf B n i)) ∧ w = w' := by
  by_cases h0 : i < 0
  · rw [fileOf_out (by omega)]
    go_enter Try.func10, Try.ntmps10
    go_wp2
    go_ret
    exact ⟨rfl, rfl⟩
  by_cases h1 : (n : Int) ≤ i
  · rw [fileOf_out (by omega)]
    go_enter Try.func10, Try.ntmps10
    go_wp2
    go_ret
    exact ⟨rfl, rfl⟩
  obtain ⟨k, rfl⟩ : ∃ k : Nat, i = k := ⟨i.toNat, by omega⟩
  have hk : k < n := by omega
  rw [fileOf_in hk]
  have hp := F.ptr k hk
  clear F
  go_enter Try.func10, Try.ntmps10
  go_wp2
  go_ret
  exact ⟨rfl, rfl⟩

/-- The index that stands for the file. -/
def ix (n : Nat) (i : Int) : Int := if 0 ≤ i ∧ i < n then i else -1

theorem pt27 : Try.prog.underlying 27 = some (.pointer (Try.prog.pointee 27)) := by
  unfold Program.pointee; rw [Try.underlying27]
theorem run_equalIn_nil_ptr {P : Program} (w : World) (d : Nat) (t e : TypeId) (p : Option Addr) (h : P.underlying t = some (.pointer e)) :
    (Op.equalIn (d + 1) t (.pointer none) (.pointer p)).run P w = .ok p.isNone w := by
  cases p <;> simp [Op.equalIn, run_underlying h]
theorem run_nil_eql (w : World) (a : Addr) : (binOp .eql 27 (.pointer none) (.pointer (some a))).run Try.prog w = .ok (.bool false) w := by
  have h : (Op.equal 27 (.pointer none) (.pointer (some a))).run Try.prog w = .ok false w := run_equalIn_nil_ptr w 9999 27 53 (some a) Try.underlying27
  simp only [binOp]
  simp [h]

theorem run_file_eq {w : World} {B n : Nat} (F : Files w B n) (i j : Int) :
    (binOp .eql 27 (.pointer (fileOf B n i)) (.pointer (fileOf B n j))).run Try.prog w = .ok (.bool (decide (ix n i = ix n j))) w := by
  obtain ⟨I, hI, hz⟩ := Option.map_eq_some_iff.1 info53
  have hz' : I.size ≠ 0 := by simpa using hz
  by_cases hi : 0 ≤ i ∧ i < n
  · obtain ⟨k, rfl⟩ : ∃ k : Nat, i = k := ⟨i.toNat, by omega⟩
    have hk : k < n := by omega
    by_cases hj : 0 ≤ j ∧ j < n
    · obtain ⟨m, rfl⟩ : ∃ m : Nat, j = m := ⟨j.toNat, by omega⟩
      have hm : m < n := by omega
      rw [fileOf_in hk, fileOf_in hm]
      by_cases e : k = m
      · subst e
        rw [run_eql_ptr_same w _ Try.underlying27 hI]; simp
      · obtain ⟨c, hc⟩ := F.blk k hk
        obtain ⟨c', hc'⟩ := F.blk m hm
        rw [run_eql_ptr_other w Try.underlying27 hI hz' (fun h => by have := congrArg Addr.block h; simp at this; omega) hc hc']
        rw [show decide (ix n k = ix n m) = false from decide_eq_false (by unfold ix; rw [if_pos hi, if_pos hj]; omega)]
    · rw [fileOf_out hj, run_eql_pointer_nil w 27 _ pt27, fileOf_in hk]
      rw [show decide (ix n k = ix n j) = false from decide_eq_false (by unfold ix; rw [if_pos hi, if_neg hj]; omega)]
      rfl
  · rw [fileOf_out hi]
    by_cases hj : 0 ≤ j ∧ j < n
    · obtain ⟨m, rfl⟩ : ∃ m : Nat, j = m := ⟨j.toNat, by omega⟩
      rw [fileOf_in (show m < n by omega)]
      rw [show decide (ix n i = ix n m) = false from decide_eq_false (by unfold ix; rw [if_neg hi, if_pos hj]; omega)]
      exact run_nil_eql w _
    · rw [fileOf_out hj, run_eql_pointer_nil w 27 _ pt27]
      rw [show decide (ix n i = ix n j) = true from decide_eq_true (by unfold ix; rw [if_neg hi, if_neg hj])]
      rfl
end Go.Proofs.Qxb6616689a.Hd
