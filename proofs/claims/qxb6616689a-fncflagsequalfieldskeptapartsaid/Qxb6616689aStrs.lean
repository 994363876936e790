import Derived.Test.Qxb6616689aRows
import Derived.WalkKit
import Derived.WalkSpells
import Derived.WalkLawsBesides
import Derived.Deep.QuietTactic
import Derived.BigQuiet
namespace Go.Proofs.Qxb6616689a
open Go.RowKit

theorem run_make_n {P : Program} (t e : TypeId) (z : Value) (size bytes : Nat) (ht : P.underlying t = some (.slice e)) (hi : (P.info? e).map (fun i => (i.zero, i.size, i.bytes)) = some (some z, size, bytes))
    (n : Nat) (hb : (bytes : Int) * n ≤ 281474976710656) (hn : (n : Int) ≤ 9223372036854775807) (w : World) :
    (Instr.makeSlice t (.int .i64 n) (.int .i64 n)).run P w = .ok (.slice (some ⟨w.heap.size, 0, none⟩) n n) (w.alloc (.cells (madeCells z.cells (n * size)) e)) := by
  obtain ⟨i, h1, h2, h3, h4⟩ := info_parts hi
  subst h3; subst h4
  have := run_make (P := P) w t e i z ht h1 h2 .i64 .i64 n n (by omega) (by omega) hb hn
  simpa using this

theorem info9 : (Try.prog.info? 9).map (fun i => (i.zero, i.size, i.bytes)) = some (some (.string ByteArray.empty), 1, 16) := by kernel_rfl

/-- The slice at 'a' of 'n' elements reads the strings f 0, .., f (n - 1); its row lies in a block from lo on, below hi. -/
def Strs (w : World) (a : Option Addr) (n : Nat) (f : Nat → ByteArray) (lo hi : Nat) : Prop :=
  0 < n → ∃ b off, a = some ⟨b, off, none⟩ ∧ lo ≤ b ∧ b < hi ∧ ∀ i, i < n → w.cell? ⟨b, off + i, none⟩ = some (.string (f i))

/-- A row of strings that the call has made: it begins at its block's head, and may be written. -/
def OwnStrs (w : World) (a : Option Addr) (n : Nat) (f : Nat → ByteArray) (lo hi : Nat) : Prop :=
  0 < n → ∃ b, a = some ⟨b, 0, none⟩ ∧ lo ≤ b ∧ b < hi ∧ ∀ i, i < n → w.cell? ⟨b, i, none⟩ = some (.string (f i)) ∧ w.frozen? ⟨b, i, none⟩ = false

theorem OwnStrs.strs {w : World} {a : Option Addr} {n : Nat} {f : Nat → ByteArray} {lo hi : Nat} (h : OwnStrs w a n f lo hi) : Strs w a n f lo hi := by
  intro hn
  obtain ⟨b, ha, h1, h2, h3⟩ := h hn
  exact ⟨b, 0, ha, h1, h2, fun i hi => by simpa using (h3 i hi).1⟩

theorem Strs.below {w w' : World} {a : Option Addr} {n : Nat} {f : Nat → ByteArray} {lo hi B : Nat} (h : Strs w a n f lo hi) (hb : Below B w w') (hB : hi ≤ B) : Strs w' a n f lo hi := by
  intro hn
  obtain ⟨b, off, ha, h1, h2, h3⟩ := h hn
  exact ⟨b, off, ha, h1, h2, fun i hi => (hb.cell (p := ⟨b, off + i, none⟩) (by show b < B; omega)).trans (h3 i hi)⟩

theorem OwnStrs.below {w w' : World} {a : Option Addr} {n : Nat} {f : Nat → ByteArray} {lo hi B : Nat} (h : OwnStrs w a n f lo hi) (hb : Below B w w') (hB : hi ≤ B) : OwnStrs w' a n f lo hi := by
  intro hn
  obtain ⟨b, ha, h1, h2, h3⟩ := h hn
  exact ⟨b, ha, h1, h2, fun i hi => ⟨(hb.cell (p := ⟨b, i, none⟩) (by show b < B; omega)).trans (h3 i hi).1, (hb.frozen (p := ⟨b, i, none⟩) (by show b < B; omega)).trans (h3 i hi).2⟩⟩

/-- What holds at the head of round k of cfClone's loop. -/
structure CInv (w wr : World) (B n k : Nat) (f : Nat → ByteArray) : Prop where
  bel : Below B w wr
  size : B < wr.heap.size
  mem : ∀ j, j < n → (∃ v, wr.cell? ⟨B, j, none⟩ = some v) ∧ wr.frozen? ⟨B, j, none⟩ = false
  done : ∀ j, j < k → wr.cell? ⟨B, j, none⟩ = some (.string (f j))

theorem CInv.start (w : World) (n : Nat) (f : Nat → ByteArray) : CInv w (w.alloc (.cells (madeCells #[.string ByteArray.empty] n) 9)) w.heap.size n 0 f where
  bel := (Below.refl _ _).alloc (Nat.le_refl _) _
  size := by simp
  mem := fun j hj => by simp [madeCells, hj]
  done := fun j hj => absurd hj (by omega)

theorem CInv.step {w wr : World} {B n k : Nat} {f : Nat → ByteArray} (h : CInv w wr B n k f) (hk : k < n) :
    CInv w (wr.setCell ⟨B, k, none⟩ (.string (f k))) B n (k + 1) f := by
  obtain ⟨⟨v, hv⟩, hf⟩ := h.mem k hk
  refine ⟨h.bel.setCell (p := ⟨B, k, none⟩) (Nat.le_refl _) _, by rw [World.size_setCell]; exact h.size, fun j hj => ?_, fun j hj => ?_⟩
  · obtain ⟨⟨u, hu⟩, hfu⟩ := h.mem j hj
    refine ⟨?_, by simpa using hfu⟩
    by_cases hjk : j = k
    · subst hjk; exact ⟨_, World.cell?_setCell_same _ _ _ hv⟩
    · rw [World.cell?_setCell_other _ _ _ _ (fun h => by cases h; omega)]; exact ⟨u, hu⟩
  · by_cases hjk : j = k
    · subst hjk; exact World.cell?_setCell_same _ _ _ hv
    · rw [World.cell?_setCell_other _ _ _ _ (fun h => by cases h; omega)]; exact h.done j (by omega)

set_option maxHeartbeats 400000 in
theorem clone_some (a : Addr) (n c : Nat) (f : Nat → ByteArray) (w : World) (hm : n ≤ 1048576) (lo hi : Nat) (hs : Strs w (some a) n f lo hi) (hhi : hi ≤ w.heap.size) :
    Calls Try.prog 18 #[.slice (some a) n c] w fun e w' => e = .returned (.slice (some ⟨w.heap.size, 0, none⟩) n n) ∧ Below w.heap.size w w' ∧ w.heap.size < w'.heap.size ∧ OwnStrs w' (some ⟨w.heap.size, 0, none⟩) n f w.heap.size (w.heap.size + 1) := by
  have hmk := run_make_n (P := Try.prog) 35 9 (.string ByteArray.empty) 1 16 Try.underlying35 info9 n (by omega) (by omega)
  simp only [Value.cells, Nat.mul_one] at hmk
  have hne := fun (w : World) => Lib.run_eql_slice_nil (P := Try.prog) w 35 9 (some a) n c 0 0 Try.underlying35
  go_enter Try.func18, Try.ntmps18
  go_wp2
  go_loopw [4] (fun i wr => ∃ k : Nat, k ≤ n ∧ i = .int .i64 k ∧ CInv w wr w.heap.size n k f) (fun i _ => n - (intOf i).toNat)
  case atStart => exact ⟨0, Nat.zero_le _, rfl, CInv.start _ _ _⟩
  case round =>
    obtain ⟨k, hk, rfl, hI⟩ := hrel
    by_cases hlt : k < n
    · obtain ⟨b, off, hae, _, hb2, hc⟩ := hs (by omega)
      cases hae
      have hcc : wr.cell? ⟨b, off + k, none⟩ = some (.string (f k)) := (hI.bel.cell (p := ⟨b, off + k, none⟩) (by show b < _; omega)).trans (hc k hlt)
      obtain ⟨⟨v, hv⟩, hf⟩ := hI.mem k hlt
      have HI : Hid (CInv w (wr.setCell ⟨w.heap.size, k, none⟩ (.string (f k))) w.heap.size n (k + 1) f) := hI.step hlt
      clear hI hs hc
      go_wp2
      go_roundw
      case rel => exact ⟨k + 1, by omega, by go_num, HI.out⟩
      case measure => simp [intOf]; omega
    · have hkn : k = n := by omega
      subst hkn
      go_wp2
      go_ret
      exact ⟨rfl, hI.bel, hI.size, fun _ => ⟨_, rfl, Nat.le_refl _, Nat.lt_succ_self _, fun i hi => ⟨hI.done i hi, (hI.mem i hi).2⟩⟩⟩

theorem clone_nil (w : World) :
    Calls Try.prog 18 #[.slice none 0 0] w fun e w' => e = .returned (.slice none 0 0) ∧ w = w' := by
  have hne := fun (w : World) => Lib.run_eql_slice_nil (P := Try.prog) w 35 9 none 0 0 0 0 Try.underlying35
  go_enter Try.func18, Try.ntmps18
  go_wp2
  go_ret
  exact ⟨rfl, rfl⟩

/-- cfClone at whatever slice of strings: nil gives nil, else a new row of the same strings. -/
theorem clone_any (a : Option Addr) (n c : Nat) (f : Nat → ByteArray) (w : World) (hm : n ≤ 1048576) (lo hi : Nat) (hs : Strs w a n f lo hi) (hhi : hi ≤ w.heap.size) (hnil : a = none → n = 0 ∧ c = 0) :
    Calls Try.prog 18 #[.slice a n c] w fun e w' => ∃ a' c', e = .returned (.slice a' n c') ∧ Below w.heap.size w w' ∧ (a' = none → n = 0 ∧ c' = 0) ∧ OwnStrs w' a' n f w.heap.size w'.heap.size := by
  cases a with
  | none =>
    obtain ⟨rfl, rfl⟩ := hnil rfl
    refine (clone_nil w).mono fun e w' ⟨h1, h2⟩ => ?_
    subst h2
    exact ⟨none, 0, h1, Below.refl _ _, fun _ => ⟨rfl, rfl⟩, fun h => absurd h (by omega)⟩
  | some a =>
    refine (clone_some a n c f w hm lo hi hs hhi).mono fun e w' ⟨h1, h2, h3, h4⟩ => ?_
    refine ⟨_, n, h1, h2, (fun h => by cases h), fun hn => ?_⟩
    obtain ⟨b, h5, h6, h7, h8⟩ := h4 hn
    exact ⟨b, h5, h6, by omega, h8⟩

/-- The two rows are the same strings in the same order. -/
def eqB (f g : Nat → ByteArray) (n m : Nat) : Bool := decide (n = m ∧ ∀ i, i < n → f i = g i)

theorem strs_beq (a b : ByteArray) : (a.toList == b.toList) = decide (a = b) := by
  rw [Bool.eq_iff_iff]
  simp only [beq_iff_eq, decide_eq_true_eq, ByteArray.toList_eq]
  constructor
  · intro h
    cases a; cases b
    congr 1
    exact Array.toList_inj.1 h
  · intro h; rw [h]

theorem eqB_yes {f g : Nat → ByteArray} {n : Nat} (h : ∀ i, i < n → f i = g i) : eqB f g n n = true := by simpa [eqB] using h
theorem eqB_no {f g : Nat → ByteArray} {n k : Nat} (hk : k < n) (h : ¬ f k = g k) : eqB f g n n = false := by
  simp only [eqB, decide_eq_false_iff_not]
  exact fun h' => h (h'.2 k hk)
theorem eqB_len {f g : Nat → ByteArray} {n m : Nat} (h : ¬ n = m) : eqB f g n m = false := by
  simp [eqB, h]
theorem ret_bool {a b : Bool} (h : a = b) : Ending.returned (.bool a) = .returned (.bool b) := by rw [h]

set_option maxHeartbeats 400000 in
theorem equal_any (a a' : Option Addr) (n c n' c' : Nat) (f g : Nat → ByteArray) (w : World) (hm : n ≤ 1048576) (hm' : n' ≤ 1048576) (lo hi lo' hi' : Nat) (hs : Strs w a n f lo hi) (hs' : Strs w a' n' g lo' hi') :
    Calls Try.prog 26 #[.slice a n c, .slice a' n' c'] w fun e w' => e = .returned (.bool (eqB f g n n')) ∧ ∃ d, w.drewN d = w' := by
  by_cases hnn : n = n'
  · subst hnn
    have hd : ((n : Int) != n) = false := by simp
    go_enter Try.func26, Try.ntmps26
    go_wp2
    go_loopw [13] (fun i wr => ∃ k d : Nat, k ≤ n ∧ i = .int .i64 k ∧ w.drewN d = wr ∧ ∀ j, j < k → f j = g j) (fun i _ => n - (intOf i).toNat)
    case atStart => exact ⟨0, 0, Nat.zero_le _, rfl, rfl, fun j hj => absurd hj (by omega)⟩
    case round =>
      obtain ⟨k, d, hk, rfl, rfl, hall⟩ := hrel
      by_cases hlt : k < n
      · obtain ⟨b, off, rfl, _, hb2, hc⟩ := hs (by omega)
        obtain ⟨b', off', rfl, _, hb2', hc'⟩ := hs' (by omega)
        have c0 := hc k hlt
        have c1 := hc' k hlt
        clear hc hc' hs hs'
        have HA : Hid (∀ j, j < k → f j = g j) := hall
        clear hall
        by_cases he : f k = g k
        · have ht : ((f k).toList == (g k).toList) = true := by rw [strs_beq]; simpa using he
          have HE : Hid (∀ j, j < k + 1 → f j = g j) := fun j hj => by by_cases e : j = k; (subst e; exact he); exact HA.out j (by omega)
          clear he HA
          go_wp2
          go_region
          all_goals (go_wp2; go_roundw)
          case rel => exact ⟨k + 1, d + 1, by omega, by go_num, rfl, HE.out⟩
          case measure => simp [intOf]; omega
        · have ht : ((f k).toList == (g k).toList) = false := by rw [strs_beq]; simpa using he
          have HE : Hid (false = eqB f g n n) := (eqB_no hlt he).symm
          clear he HA
          go_wp2
          go_region
          all_goals go_wp2
          go_ret
          exact ⟨ret_bool HE.out, d + 1, rfl⟩
      · have hkn : k = n := by omega
        subst hkn
        have HE : Hid (true = eqB f g k k) := (eqB_yes hall).symm
        clear hall hs hs'
        go_wp2
        go_ret
        exact ⟨ret_bool HE.out, d, rfl⟩
  · have hd : ((n : Int) != n') = true := by simp; omega
    have HE : Hid (false = eqB f g n n') := (eqB_len hnn).symm
    go_enter Try.func26, Try.ntmps26
    go_wp2
    go_ret
    exact ⟨ret_bool HE.out, 0, rfl⟩

set_option maxHeartbeats 400000 in
theorem same_any (a a' : Option Addr) (n c n' c' : Nat) (f g : Nat → ByteArray) (w : World) (hm : n ≤ 1048576) (hm' : n' ≤ 1048576) (lo hi lo' hi' : Nat) (hs : Strs w a n f lo hi) (hs' : Strs w a' n' g lo' hi') :
    Calls Try.prog 21 #[.slice a n c, .slice a' n' c'] w fun e w' => e = .returned (.bool (eqB f g n n')) ∧ ∃ d, w.drewN d = w' := by
  by_cases hnn : n = n'
  · subst hnn
    have hd : ((n : Int) != n) = false := by simp
    go_enter Try.func21, Try.ntmps21
    go_wp2
    go_loopw [5] (fun i wr => ∃ k d : Nat, k ≤ n ∧ i = .int .i64 k ∧ w.drewN d = wr ∧ ∀ j, j < k → f j = g j) (fun i _ => n - (intOf i).toNat)
    case atStart => exact ⟨0, 0, Nat.zero_le _, rfl, rfl, fun j hj => absurd hj (by omega)⟩
    case round =>
      obtain ⟨k, d, hk, rfl, rfl, hall⟩ := hrel
      by_cases hlt : k < n
      · obtain ⟨b, off, rfl, _, hb2, hc⟩ := hs (by omega)
        obtain ⟨b', off', rfl, _, hb2', hc'⟩ := hs' (by omega)
        have c0 := hc k hlt
        have c1 := hc' k hlt
        clear hc hc' hs hs'
        have HA : Hid (∀ j, j < k → f j = g j) := hall
        clear hall
        by_cases he : f k = g k
        · have ht : ((f k).toList == (g k).toList) = true := by rw [strs_beq]; simpa using he
          have HE : Hid (∀ j, j < k + 1 → f j = g j) := fun j hj => by by_cases e : j = k; (subst e; exact he); exact HA.out j (by omega)
          clear he HA
          go_wp2
          go_region
          all_goals (go_wp2; go_roundw)
          case rel => exact ⟨k + 1, d + 1, by omega, by go_num, rfl, HE.out⟩
          case measure => simp [intOf]; omega
        · have ht : ((f k).toList == (g k).toList) = false := by rw [strs_beq]; simpa using he
          have HE : Hid (false = eqB f g n n) := (eqB_no hlt he).symm
          clear he HA
          go_wp2
          go_region
          all_goals go_wp2
          go_ret
          exact ⟨ret_bool HE.out, d + 1, rfl⟩
      · have hkn : k = n := by omega
        subst hkn
        have HE : Hid (true = eqB f g k k) := (eqB_yes hall).symm
        clear hall hs hs'
        go_wp2
        go_ret
        exact ⟨ret_bool HE.out, d, rfl⟩
  · have hd : ((n : Int) != n') = true := by simp; omega
    have HE : Hid (false = eqB f g n n') := (eqB_len hnn).symm
    go_enter Try.func21, Try.ntmps21
    go_wp2
    go_ret
    exact ⟨ret_bool HE.out, 0, rfl⟩

end Go.Proofs.Qxb6616689a
