import Derived.Test.Qxb6616450aRows
import Derived.WalkKit
import Derived.WalkSpells
import Derived.WalkLawsBesides
import Derived.Deep.QuietTactic
import Derived.BigQuiet
import Derived.Laws.CopyOwn
namespace Go.Proofs.Qxb6616450a
open Go.RowKit

set_option maxHeartbeats 400000 in
theorem end_any (g mb nb : Nat) (n : Nat) (z : Int) (w : World) (hn : 1 ≤ n) (hm : n ≤ 65536)
   (h0 : w.cell? ⟨g, 0, none⟩ = some (.slice (some ⟨mb, 0, none⟩) n n))
   (h1 : w.cell? ⟨mb, n - 1, none⟩ = some (.pointer (some ⟨nb, 0, none⟩)))
   (h2 : w.cell? ⟨nb, 12, none⟩ = some (.int .i64 z)) :
    Calls Try.prog 16 #[.pointer (some ⟨g, 0, none⟩)] w fun e w' => e = .returned (.int .i64 (wrap64 (z + 1))) ∧ w.drew = w' := by
  go_enter Try.func16, Try.ntmps16
  go_wp2
  go_region
  go_wp2
  go_ret
  exact ⟨rfl, rfl⟩

theorem zend_any (g mb nb : Nat) (n : Nat) (z : Int) (w : World) (hn : 1 ≤ n) (hm : n ≤ 65536)
   (h0 : w.cell? ⟨g, 0, none⟩ = some (.slice (some ⟨mb, 0, none⟩) n n))
   (h1 : w.cell? ⟨mb, n - 1, none⟩ = some (.pointer (some ⟨nb, 0, none⟩)))
   (h2 : w.cell? ⟨nb, 12, none⟩ = some (.int .i64 z)) :
    Calls Try.prog 12 #[.pointer (some ⟨g, 0, none⟩)] w fun e w' => e = .returned (.int .i64 (wrap64 (z + 1))) ∧ w.drew = w' := by
  go_enter Try.func12, Try.ntmps12
  go_wp2_with (go_at_call 16; refine (end_any g mb nb n z _ hn hm h0 h1 h2).mono ?_; rintro e w' ⟨rfl, rfl⟩)
  go_ret
  exact ⟨rfl, rfl⟩


theorem run_make_n {P : Program} (t e : TypeId) (z : Value) (size bytes : Nat) (ht : P.underlying t = some (.slice e)) (hi : (P.info? e).map (fun i => (i.zero, i.size, i.bytes)) = some (some z, size, bytes))
    (n : Nat) (hb : (bytes : Int) * n ≤ 281474976710656) (hn : (n : Int) ≤ 9223372036854775807) (w : World) :
    (Instr.makeSlice t (.int .i64 n) (.int .i64 n)).run P w = .ok (.slice (some ⟨w.heap.size, 0, none⟩) n n) (w.alloc (.cells (madeCells z.cells (n * size)) e)) := by
  obtain ⟨i, h1, h2, h3, h4⟩ := info_parts hi
  subst h3; subst h4
  have := run_make (P := P) w t e i z ht h1 h2 .i64 .i64 n n (by omega) (by omega) hb hn
  simpa using this

theorem info40 : (Try.prog.info? 40).map (fun i => (i.zero, i.size, i.bytes)) = some (some (.pointer none), 1, 8) := by kernel_rfl
theorem info3 : (Try.prog.info? 3).map (fun i => (i.zero, i.size, i.bytes)) = some (some (.int .i64 0), 1, 8) := by kernel_rfl

/-- What holds at the head of round k of ZZnewGroup's loop: B: the heap's size at the call. -/
structure NInv (w wr : World) (B n k : Nat) (f : Nat → Int) : Prop where
  bel : Below B w wr
  size : B + 2 ≤ wr.heap.size
  grp : wr.cell? ⟨B + 1, 0, none⟩ = some (.slice (some ⟨B, 0, none⟩) n n)
  mem : ∀ j, j < n → (∃ v, wr.cell? ⟨B, j, none⟩ = some v) ∧ wr.frozen? ⟨B, j, none⟩ = false
  last : 0 < k → ∃ nb, nb < wr.heap.size ∧ wr.cell? ⟨B, k - 1, none⟩ = some (.pointer (some ⟨nb, 0, none⟩)) ∧ wr.cell? ⟨nb, 12, none⟩ = some (.int .i64 (f (k - 1)))

theorem NInv.start (w : World) (n : Nat) (f : Nat → Int) (g : Array Value) (hg : g[0]? = some (.slice (some ⟨w.heap.size, 0, none⟩) n n)) :
    NInv w ((w.alloc (.cells (madeCells #[.pointer none] n) 40)).alloc (.cells g 42)) w.heap.size n 0 f where
  bel := ((Below.refl _ _).alloc (Nat.le_refl _) _).alloc (by simp) _
  size := by simp
  grp := by rw [World.cell?_alloc_at _ _ _ _ (by simp)]; exact hg
  mem := fun j hj => by
    rw [World.cell?_alloc_past _ _ _ (by simp), World.frozen?_alloc_past _ _ _ (by simp)]
    simp [madeCells, hj]
  last := fun h => absurd h (by omega)

theorem NInv.step {w wr : World} {B n k : Nat} {f : Nat → Int} (h : NInv w wr B n k f) (hk : k < n) (g : Array Value) (hg : g[12]? = some (.int .i64 (f k))) :
    NInv w (((wr.setCell ⟨B, k, none⟩ (.pointer (some ⟨wr.heap.size, 0, none⟩))).alloc (.cells g 48)).drew) B n (k + 1) f := by
  have hs := h.size
  obtain ⟨⟨v, hv⟩, hf⟩ := h.mem k hk
  refine ⟨?_, ?_, ?_, ?_, ?_⟩
  · exact ((h.bel.setCell (p := ⟨B, k, none⟩) (Nat.le_refl _) _).alloc (by rw [World.size_setCell]; omega) _).drew
  · simp; omega
  · rw [World.cell?_drew, World.cell?_alloc_past _ _ _ (by simp; omega), World.cell?_setCell_other _ _ _ _ (by simp)]; exact h.grp
  · intro j hj
    obtain ⟨⟨u, hu⟩, hfu⟩ := h.mem j hj
    rw [World.cell?_drew, World.frozen?_drew, World.cell?_alloc_past _ _ _ (by simp; omega), World.frozen?_alloc_past _ _ _ (by simp; omega)]
    refine ⟨?_, by simpa using hfu⟩
    by_cases hjk : j = k
    · subst hjk; exact ⟨_, World.cell?_setCell_same _ _ _ hv⟩
    · rw [World.cell?_setCell_other _ _ _ _ (fun h => by cases h; omega)]; exact ⟨u, hu⟩
  · intro _
    refine ⟨wr.heap.size, by simp, ?_, ?_⟩
    · rw [World.cell?_drew, World.cell?_alloc_past _ _ _ (by simp; omega)]; exact World.cell?_setCell_same _ _ _ hv
    · rw [World.cell?_drew, World.cell?_alloc_at _ _ _ _ (by simp)]; exact hg

set_option maxRecDepth 10000 in
set_option maxHeartbeats 400000 in
theorem new_any (b : Nat) (off n c : Nat) (f : Nat → Int) (w : World) (hn : 1 ≤ n) (hm : n ≤ 65536) (hb : b < w.heap.size)
   (h0 : ∀ i, i < n → w.cell? ⟨b, off + i, none⟩ = some (.int .i64 (f i))) :
    Calls Try.prog 13 #[.slice (some ⟨b, off, none⟩) n c] w fun e w' => ∃ g mb nb, e = .returned (.pointer (some ⟨g, 0, none⟩)) ∧ Below w.heap.size w w' ∧ 
      w'.cell? ⟨g, 0, none⟩ = some (.slice (some ⟨mb, 0, none⟩) n n) ∧ w'.cell? ⟨mb, n - 1, none⟩ = some (.pointer (some ⟨nb, 0, none⟩)) ∧ w'.cell? ⟨nb, 12, none⟩ = some (.int .i64 (f (n - 1))) := by
  have hmk := run_make_n (P := Try.prog) 39 40 (.pointer none) 1 8 Try.underlying39 info40 n (by omega) (by omega)
  simp only [Value.cells, Nat.mul_one] at hmk
  go_enter Try.func13, Try.ntmps13
  go_wp2
  go_loopw [12] (fun i wr => ∃ k : Nat, k ≤ n ∧ i = .int .i64 k ∧ NInv w wr w.heap.size n k f) (fun i _ => n - (intOf i).toNat)
  case atStart => exact ⟨0, Nat.zero_le _, rfl, NInv.start _ _ _ _ rfl⟩
  case round =>
    obtain ⟨k, hk, rfl, hI⟩ := hrel
    by_cases hlt : k < n
    · have hc : wr.cell? ⟨b, off + k, none⟩ = some (.int .i64 (f k)) := (hI.bel.cell (p := ⟨b, off + k, none⟩) hb).trans (h0 k hlt)
      have hg := hI.grp
      have hs : w.heap.size + 1 < wr.heap.size := hI.size
      have hs' : w.heap.size < wr.heap.size := by omega
      have hbs : b < wr.heap.size := by omega
      obtain ⟨⟨v, hv⟩, hf⟩ := hI.mem k hlt
      have HI : Hid (NInv w wr w.heap.size n k f) := hI
      clear hI
      go_wp2
      go_region
      all_goals (go_wp2; go_roundw)
      case rel => exact ⟨k + 1, by omega, by go_num, HI.out.step hlt _ rfl⟩
      case measure => simp [intOf]; omega
    · have hkn : k = n := by omega
      subst hkn
      go_wp2
      go_ret
      obtain ⟨nb, _, h1, h2⟩ := hI.last (by omega)
      exact ⟨_, _, nb, rfl, hI.bel, hI.grp, h1, h2⟩


theorem bytes_any (a : Option Addr) (n c : Nat) (i : Int) (w : World) (hn : n ≤ 1048576) :
    Calls Try.prog 11 #[.slice a n c, .int .i64 i] w fun e w' => e = .returned (.bool true) ∧ w = w' := by
  go_enter Try.func11, Try.ntmps11
  go_wp2
  go_ret
  exact ⟨rfl, rfl⟩
theorem bytes_no (a : Option Addr) (n c : Nat) (i : Int) (w : World) (hn : 1048576 < n) :
    Calls Try.prog 11 #[.slice a n c, .int .i64 i] w fun e w' => e = .returned (.bool false) ∧ w = w' := by
  go_enter Try.func11, Try.ntmps11
  go_wp2
  go_ret
  exact ⟨rfl, rfl⟩

theorem walk_great (a : Option Addr) (n c : Nat) (i : Int) (w : World) (hn : 1048576 < n) :
    Calls Try.prog 5 #[.slice a n c, .int .i64 i] w fun e w' => e = .returned (.bool true) ∧ w = w' := by
  go_enter Try.func5, Try.ntmps5
  go_wp2_with (go_at_call 11; refine (bytes_no _ _ _ _ _ hn).mono ?_; rintro e w' ⟨rfl, rfl⟩)
  go_ret
  exact ⟨rfl, rfl⟩
theorem walk_big (a : Option Addr) (n c : Nat) (i : Int) (w : World) (hn : n ≤ 1048576) (hm : 65536 < n) :
    Calls Try.prog 5 #[.slice a n c, .int .i64 i] w fun e w' => e = .returned (.bool true) ∧ w = w' := by
  go_enter Try.func5, Try.ntmps5
  go_wp2_with (go_at_call 11; refine (bytes_any _ _ _ _ _ hn).mono ?_; rintro e w' ⟨rfl, rfl⟩)
  go_ret
  exact ⟨rfl, rfl⟩
theorem walk_none (a : Option Addr) (c : Nat) (i : Int) (w : World) :
    Calls Try.prog 5 #[.slice a 0 c, .int .i64 i] w fun e w' => e = .returned (.bool true) ∧ w = w' := by
  go_enter Try.func5, Try.ntmps5
  go_wp2_with (go_at_call 11; refine (bytes_any _ _ _ _ _ (by omega)).mono ?_; rintro e w' ⟨rfl, rfl⟩)
  go_ret
  exact ⟨rfl, rfl⟩

theorem sz3 : (Try.prog.info? 3).map (·.size) = some 1 := by kernel_rfl

/-- The row of the n numbers f 0, f 1, .. -/
theorem row_of (f : Nat → Int) (n : Nat) : ∃ cs : List Value, cs.length = n ∧ (∀ j v, cs[j]? = some v → j < n ∧ v = .int .i64 (f j)) ∧ (∀ j, j < n → cs[j]? = some (.int .i64 (f j))) ∧ ∀ v ∈ cs, v.oneCell' = true := by
  refine ⟨(List.range n).map fun i => Value.int .i64 (f i), by simp, fun j v h => ?_, fun j h => ?_, fun v hv => ?_⟩
  · rw [List.getElem?_map] at h
    obtain ⟨k, hk, rfl⟩ := Option.map_eq_some_iff.1 h
    obtain ⟨h1, h2⟩ := List.getElem?_eq_some_iff.1 hk
    simp at h1 h2
    subst h2
    exact ⟨h1, rfl⟩
  · simp [h]
  · obtain ⟨i, _, rfl⟩ := List.mem_map.1 hv; rfl


theorem wrap64_congr (a b : Int) (h : ∃ k : Int, a = b + 18446744073709551616 * k) : wrap64 a = wrap64 b := by
  obtain ⟨k, rfl⟩ := h
  unfold wrap64
  omega
theorem wrap64_wrap (a b : Int) : wrap64 (wrap64 a + b) = wrap64 (a + b) := by
  unfold wrap64
  omega
/-- Consecutive numbers. -/
theorem run_at (f : Nat → Int) (n : Nat) (h0 : wrap64 (f 0) = f 0) (h : ∀ i, i + 1 < n → f (i + 1) = wrap64 (f i + 1)) : ∀ i, i < n → f i = wrap64 (f 0 + i) := by
  intro i
  induction i with
  | zero => intro _; simp [h0]
  | succ i ih =>
    intro hi
    rw [h i hi, ih (by omega), wrap64_wrap]
    congr 1
    omega
theorem run_end (f : Nat → Int) (n : Nat) (h0 : wrap64 (f 0) = f 0) (h : ∀ i, i + 1 < n → f (i + 1) = wrap64 (f i + 1)) (i : Nat) (hi : i < n) : wrap64 (f i + 1) = wrap64 (f 0 + (i + 1 : Nat)) := by
  rw [run_at f n h0 h i hi, wrap64_wrap]
  congr 1
  omega
theorem zend_r (g mb nb : Nat) (n : Nat) (z r : Int) (w : World) (hn : 1 ≤ n) (hm : n ≤ 65536) (hr : wrap64 (z + 1) = r)
   (h0 : w.cell? ⟨g, 0, none⟩ = some (.slice (some ⟨mb, 0, none⟩) n n))
   (h1 : w.cell? ⟨mb, n - 1, none⟩ = some (.pointer (some ⟨nb, 0, none⟩)))
   (h2 : w.cell? ⟨nb, 12, none⟩ = some (.int .i64 z)) :
    Calls Try.prog 12 #[.pointer (some ⟨g, 0, none⟩)] w fun e w' => e = .returned (.int .i64 r) ∧ w.drew = w' := by
  subst hr
  exact zend_any g mb nb n z w hn hm h0 h1 h2

/-- What holds at the head of each round of the law's own loop. -/
structure LInv (w wr : World) (B n k : Nat) (f : Nat → Int) : Prop where
  bel : Below B w wr
  size : B < wr.heap.size
  row : ∀ j, j < n → wr.cell? ⟨B, j, none⟩ = some (.int .i64 (f j))
  so : ∀ i, i < k → f (i + 1) = wrap64 (f i + 1)

theorem LInv.start {w w1 : World} {n : Nat} {f : Nat → Int} {cs L : List Value} (hb1 : Below w.heap.size w w1) (hg1 : w1.heap[w.heap.size]? = some (.cells (splice L 0 cs).toArray 3 (0, 0)))
    (hcl : cs.length = n) (hcs : ∀ j, j < n → cs[j]? = some (.int .i64 (f j))) : LInv w w1 w.heap.size n 0 f := by
  refine ⟨hb1, ?_, fun j hj => ?_, fun i hi => by omega⟩
  · rcases Nat.lt_or_ge w.heap.size w1.heap.size with h | h
    · exact h
    · rw [Array.getElem?_eq_none h] at hg1; cases hg1
  · unfold World.cell?
    rw [hg1]
    simp only [Option.isSome_none, Bool.false_eq_true, if_false, List.getElem?_toArray, splice, List.take_zero, List.nil_append]
    rw [List.getElem?_append_left (by omega)]
    exact hcs j hj
theorem LInv.drew {w wr : World} {B n k : Nat} {f : Nat → Int} (h : LInv w wr B n k f) (hk : f (k + 1) = wrap64 (f k + 1)) : LInv w wr.drew B n (k + 1) f :=
  ⟨h.bel.drew, h.size, h.row, fun i hi => by by_cases e : i = k; (subst e; exact hk); exact h.so i (by omega)⟩
set_option maxRecDepth 10000 in
set_option maxHeartbeats 400000 in
theorem walk_main (b off n c : Nat) (i : Int) (f : Nat → Int) (w : World) (hn : 1 ≤ n) (hm : n ≤ 65536) (hb : b < w.heap.size)
   (h0 : ∀ i, i < n → w.cell? ⟨b, off + i, none⟩ = some (.int .i64 (f i))) (hw0 : wrap64 (f 0) = f 0) :
    Calls Try.prog 5 #[.slice (some ⟨b, off, none⟩) n c, .int .i64 i] w fun e w' => e = .returned (.bool true) ∧ Below w.heap.size w w' := by
  have hmk := run_make_n (P := Try.prog) 30 3 (.int .i64 0) 1 8 Try.underlying30 info3 n (by omega) (by omega)
  simp only [Value.cells, Nat.mul_one] at hmk
  have hne := fun (w : World) => run_neq_slice_nil_any (P := Try.prog) w 30 3 (some ⟨b, off, none⟩) n c 0 0 Try.underlying30
  obtain ⟨cs, hcl, hcg, hcs, hc1⟩ := row_of f n
  have HCL : Hid (cs.length = n) := hcl
  have HCG : Hid (∀ j v, cs[j]? = some v → j < n ∧ v = .int .i64 (f j)) := hcg
  have HCS : Hid (∀ j, j < n → cs[j]? = some (.int .i64 (f j))) := hcs
  clear hcl hcg hcs
  go_enter Try.func5, Try.ntmps5
  go_wp2_with (first | (go_at_call 11; refine (bytes_any _ _ _ _ _ (by omega)).mono ?_; rintro e w' ⟨rfl, rfl⟩) | ((refine wpList_copy_splice rfl (.tmp 26) (.tmp 27) 30 30 rfl 3 Try.underlying30 sz3 _ _ _ _ _ _ rfl rfl w.heap.size 0 (madeCells #[.int .i64 0] n).toList 3 ?c0 cs ?c1 ?c2 ?c3 hc1 w.heap.size w ?c4 (Nat.le_refl _) ?_)))
  case c0 => exact (heap_alloc_new _ _).trans (by simp)
  case c1 => rw [HCL.out]; exact (Nat.min_self n).symm
  case c2 => exact fun _ j v h => by obtain ⟨h1, rfl⟩ := HCG.out j v h; exact h0 j h1
  case c3 => rw [HCL.out]; simp [size_madeCells]
  case c4 => exact (Below.refl _ _).alloc (Nat.le_refl _) _
  intro w1 hg1 hb1
  have hI1 : Hid (LInv w w1 w.heap.size n 0 f) := LInv.start hb1 hg1 HCL.out HCS.out
  clear hb1 hg1 hc1 HCL HCG HCS hmk hne
  go_wp2
  go_loopw [6] (fun j wr => ∃ k : Nat, k + 1 ≤ n ∧ j = .int .i64 k ∧ LInv w wr w.heap.size n k f) (fun j _ => n - (intOf j).toNat)
  case atStart => exact ⟨0, by omega, rfl, hI1.out⟩
  case round =>
    clear hI1
    obtain ⟨k, hk, rfl, hI⟩ := hrel
    have hsz := hI.size
    by_cases hlt : k + 1 < n
    · have c0 := hI.row k (by omega)
      have c1 := hI.row (k + 1) hlt
      by_cases heq : f (k + 1) = wrap64 (f k + 1)
      · have ht : (f (k + 1) != wrap64 (f k + 1)) = false := by simpa using heq
        have HI : Hid (LInv w wr.drew w.heap.size n (k + 1) f) := hI.drew heq
        clear heq hI
        go_wp2
        go_region
        all_goals (go_wp2; go_roundw)
        case rel => exact ⟨k + 1, by omega, by go_num, HI.out⟩
        case measure => simp [intOf]; omega
      · have ht : (f (k + 1) != wrap64 (f k + 1)) = true := by simpa using heq
        clear heq
        go_wp2
        go_region
        all_goals go_wp2
        go_ret
        exact ⟨rfl, hI.bel.drew⟩
    · obtain ⟨bel, _, row, so⟩ := hI
      have hend := run_end f n hw0 (fun i hi => so i (by omega))
      have hat := run_at f n hw0 (fun i hi => so i (by omega))
      have HE : Hid (∀ (i : Nat), i < n → wrap64 (f i + 1) = wrap64 (f 0 + ↑(i + 1))) := hend
      have HA : Hid (∀ (i : Nat), i < n → f i = wrap64 (f 0 + ↑i)) := hat
      clear hend hat so
      have r0 := row 0 (by omega)
      go_wp2_with fail
      refine (new_any w.heap.size 0 n n f wr hn hm hsz (by intro i hi; simpa using row i hi)).mono ?_
      rintro e w2 ⟨g, mb, nb, rfl, hb2, g1, g2, g3⟩
      go_wp2_with fail
      refine (zend_r g mb nb n _ (wrap64 (f 0 + n)) w2 hn hm ((HE.out (n - 1) (by omega)).trans (by rw [show n - 1 + 1 = n by omega])) g1 g2 g3).mono ?_
      rintro e w3 ⟨rfl, rfl⟩
      clear g1 g2 g3
      have r02 : w2.cell? ⟨w.heap.size, 0, none⟩ = some (.int .i64 (f 0)) := (hb2.cell (p := ⟨w.heap.size, 0, none⟩) hsz).trans r0
      have hwr : wr.heap.size ≤ w2.heap.size := hb2.size
      have hb2' : Below w.heap.size w w2 := bel.trans (hb2.mono (by omega))
      by_cases hi : 0 < i ∧ i < n
      · obtain ⟨hi1, hi2⟩ := hi
        obtain ⟨m, rfl⟩ : ∃ m : Nat, i = m := ⟨i.toNat, by omega⟩
        have hd1 : decide ((0 : Int) < m) = true := by simpa using hi1
        have rm := row m (by omega)
        have row2 : ∀ j, j < n → w2.drew.cell? ⟨w.heap.size, j, none⟩ = some (.int .i64 (f j)) := fun j hj => (hb2.cell (p := ⟨w.heap.size, j, none⟩) hsz).trans (row j hj)
        have HR2 : Hid (∀ j, j < n → w2.drew.cell? ⟨w.heap.size, j, none⟩ = some (.int .i64 (f j))) := row2
        clear row row2 hb2
        go_wp2_with fail
        refine (new_any w.heap.size 0 m n f w2.drew (by omega) (by omega) (show w.heap.size < w2.heap.size by omega) (by intro i hi; simpa using HR2.out i (by omega))).mono ?_
        rintro e w4 ⟨g', mb', nb', rfl, hb4, g1, g2, g3⟩
        go_wp2_with fail
        refine (zend_r g' mb' nb' m _ (f m) w4 (by omega) (by omega) ?_ g1 g2 g3).mono ?_
        · rw [HA.out m (by omega), HE.out (m - 1) (by omega), show m - 1 + 1 = m by omega]
        rintro e w5 ⟨rfl, rfl⟩
        clear g1 g2 g3
        have hsz4 : w2.heap.size ≤ w4.heap.size := hb4.size
        have row4 : ∀ j, j < n → w4.drew.cell? ⟨w.heap.size, j, none⟩ = some (.int .i64 (f j)) := fun j hj => (hb4.cell (p := ⟨w.heap.size, j, none⟩) (show w.heap.size < w2.heap.size by omega)).trans (HR2.out j hj)
        have HR4 : Hid (∀ j, j < n → w4.drew.cell? ⟨w.heap.size, j, none⟩ = some (.int .i64 (f j))) := row4
        have hb4' : Below w.heap.size w w4 := hb2'.trans ((Below.refl _ _).drew.trans (hb4.mono (show w.heap.size ≤ w2.heap.size by omega)))
        clear row4 hb4
        go_wp2_with fail
        refine (new_any w.heap.size m (n - m) (n - m) (fun j => f (m + j)) w4.drew (by omega) (by omega) (show w.heap.size < w4.heap.size by omega) (by intro i hi; exact HR4.out (m + i) (by omega))).mono ?_
        rintro e w6 ⟨g'', mb'', nb'', rfl, hb6, g1, g2, g3⟩
        go_wp2_with fail
        refine (zend_r g'' mb'' nb'' (n - m) _ (wrap64 (f 0 + n)) w6 (by omega) (by omega) ?_ g1 g2 g3).mono ?_
        · show wrap64 (f (m + (n - m - 1)) + 1) = _
          rw [HE.out _ (by omega), show m + (n - m - 1) + 1 = n by omega]
        rintro e w7 ⟨rfl, rfl⟩
        clear g1 g2 g3
        have rm6 : w6.cell? ⟨w.heap.size, m, none⟩ = some (.int .i64 (f m)) := (hb6.cell (p := ⟨w.heap.size, m, none⟩) (show w.heap.size < w4.heap.size by omega)).trans (HR4.out m (by omega))
        have hb6' : Below w.heap.size w w6 := hb4'.trans ((Below.refl _ _).drew.trans (hb6.mono (show w.heap.size ≤ w4.heap.size by omega)))
        clear hb6
        go_wp2
        go_ret
        exact ⟨rfl, hb6'.drew⟩
      · go_wp2_with fail
        all_goals (go_ret; exact ⟨rfl, hb2'.drew⟩)
end Go.Proofs.Qxb6616450a
