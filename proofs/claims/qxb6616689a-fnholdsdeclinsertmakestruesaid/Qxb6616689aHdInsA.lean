import Derived.Test.Qxb6616689aHdCut
namespace Go.Proofs.Qxb6616689a.Hd
open Go.RowKit

/-- The row of the k numbers f 0, .., f (k - 1). -/
def rowOf (f : Nat → Int) (k : Nat) : List Value := (List.range k).map fun i => .int .i64 (f i)
theorem length_rowOf (f : Nat → Int) (k : Nat) : (rowOf f k).length = k := by simp [rowOf]
theorem rowOf_get {f : Nat → Int} {k j : Nat} {u : Value} (h : (rowOf f k)[j]? = some u) : j < k ∧ u = .int .i64 (f j) := by
  unfold rowOf at h
  rw [List.getElem?_map] at h
  obtain ⟨i, hi, rfl⟩ := Option.map_eq_some_iff.1 h
  obtain ⟨h1, h2⟩ := List.getElem?_eq_some_iff.1 hi
  simp at h1 h2
  subst h2
  exact ⟨h1, rfl⟩
theorem rowOf_at {f : Nat → Int} {k j : Nat} (h : j < k) : (rowOf f k)[j]? = some (.int .i64 (f j)) := by simp [rowOf, h]
theorem rowOf_one (f : Nat → Int) (k : Nat) : ∀ u ∈ rowOf f k, u.oneCell' = true := by
  intro u hu
  obtain ⟨i, _, rfl⟩ := List.mem_map.1 hu
  rfl

/-- The cells of a slice that came in lie where append looks for them. -/
theorem src_of {w w' : World} {a : Option Addr} {k : Nat} {f : Nat → Int} {hi B : Nat} (R : Ints w a k f hi) (hb : Below B w w') (hh : hi ≤ B) :
    ∀ ad, a = some ad → ∀ j u, (rowOf f k)[j]? = some u → w'.cell? (ad.add j) = some u := by
  intro ad hp j u hu
  obtain ⟨hj, rfl⟩ := rowOf_get hu
  obtain ⟨b, off, he, h2, h3⟩ := R (by omega)
  rw [hp] at he
  cases he
  have : (⟨b, off, none⟩ : Addr).add j = ⟨b, off + j, none⟩ := by unfold Addr.add; simp
  rw [this]
  exact (hb.cell (p := ⟨b, off + j, none⟩) (by show b < B; omega)).trans (h3 j hj)

/-- f with q put in at place k. -/
def ins (f : Nat → Int) (k : Nat) (q : Int) : Nat → Int := fun i => if i < k then f i else if i = k then q else f (i - 1)

theorem ins_row {w : World} {G cap k r hi : Nat} {f : Nat → Int} {q : Int} (h : w.ownsRow G 3 1 (.slice (some ⟨G, 0, none⟩) (k + 1 + r) cap) (k + 1 + r) (rowOf f k ++ [.int .i64 q] ++ rowOf (fun i => f (k + i)) r)) (hG : G < hi) :
    Ints w (some ⟨G, 0, none⟩) (k + 1 + r) (ins f k q) hi := by
  intro _
  obtain ⟨_, h | ⟨g, c, cur, hv, _, hh, _, _, hsz, htk⟩⟩ := h
  · cases h.1
  cases hv
  refine ⟨G, 0, rfl, hG, fun i hi' => ?_⟩
  rw [Nat.zero_add]
  unfold World.cell?
  rw [hh]
  simp only [Option.isSome_none, Bool.false_eq_true, if_false]
  have e : cur[i]? = (rowOf f k ++ [.int .i64 q] ++ rowOf (fun i => f (k + i)) r)[i]? := by
    rw [← htk, List.getElem?_take_of_lt (by omega), Array.getElem?_toList]
  rw [e]
  unfold ins
  by_cases h1 : i < k
  · rw [if_pos h1, List.append_assoc, List.getElem?_append_left (by rw [length_rowOf]; exact h1)]
    exact rowOf_at h1
  · rw [if_neg h1]
    by_cases h2 : i = k
    · subst h2
      rw [if_pos rfl, List.getElem?_append_left (by simp [length_rowOf]), List.getElem?_append_right (by rw [length_rowOf]; omega)]
      simp [length_rowOf]
    · rw [if_neg h2, List.getElem?_append_right (by simp [length_rowOf]; omega)]
      simp only [List.length_append, length_rowOf, List.length_cons, List.length_nil]
      rw [rowOf_at (show i - (k + (0 + 1)) < r by omega), show k + (i - (k + (0 + 1))) = i - 1 by omega]

theorem hasB_ins (n : Nat) (f : Nat → Int) (m k : Nat) (q o : Int) (h : k ≤ m) : hasB n (ins f k q) (k + 1 + (m - k)) o = (hasB n f m o || (ix n o == ix n q)) := by
  rw [Bool.eq_iff_iff, Bool.or_eq_true, hasB_iff, hasB_iff, beq_iff_eq]
  unfold ins
  constructor
  · rintro ⟨i, hi, he⟩
    by_cases h1 : i < k
    · rw [if_pos h1] at he; exact .inl ⟨i, by omega, he⟩
    · rw [if_neg h1] at he
      by_cases h2 : i = k
      · rw [if_pos h2] at he; exact .inr he.symm
      · rw [if_neg h2] at he; exact .inl ⟨i - 1, by omega, he⟩
  · rintro (⟨i, hi, he⟩ | he)
    · by_cases h1 : i < k
      · exact ⟨i, by omega, by rw [if_pos h1]; exact he⟩
      · exact ⟨i + 1, by omega, by rw [if_neg (by omega), if_neg (by omega)]; exact he⟩
    · exact ⟨k, by omega, by rw [if_neg (by omega), if_pos rfl]; exact he.symm⟩

theorem bytes_ins (a : Option Addr) (m c : Nat) (n p q o : Int) (w : World) (hn : m ≤ 1048576) :
    Calls Try.prog 14 #[.int .i64 n, .slice a m c, .int .i64 p, .int .i64 q, .int .i64 o] w fun e w' => e = .returned (.bool true) ∧ w = w' := by
  go_enter Try.func14, Try.ntmps14
  go_wp2
  go_ret
  exact ⟨rfl, rfl⟩
theorem bytes_ins_no (a : Option Addr) (m c : Nat) (n p q o : Int) (w : World) (hn : 1048576 < m) :
    Calls Try.prog 14 #[.int .i64 n, .slice a m c, .int .i64 p, .int .i64 q, .int .i64 o] w fun e w' => e = .returned (.bool false) ∧ w = w' := by
  go_enter Try.func14, Try.ntmps14
  go_wp2
  go_ret
  exact ⟨rfl, rfl⟩

theorem ins_early (a : Option Addr) (m c : Nat) (n p q o : Int) (w : World) (h : 65536 < m ∨ (n < 0 ∨ 65536 < n) ∨ (p < 0 ∨ (m : Int) < p)) :
    Calls Try.prog 4 #[.int .i64 n, .slice a m c, .int .i64 p, .int .i64 q, .int .i64 o] w fun e w' => e = .returned (.bool true) ∧ Below w.heap.size w w' := by
  by_cases hb : 1048576 < m
  · go_enter Try.func4, Try.ntmps4
    go_wp2_with (go_at_call 14; refine (bytes_ins_no _ _ _ _ _ _ _ _ hb).mono ?_; rintro e w' ⟨rfl, rfl⟩)
    go_ret
    exact ⟨rfl, Below.refl _ _⟩
  have hb' : m ≤ 1048576 := by omega
  by_cases h1 : 65536 < m
  · go_enter Try.func4, Try.ntmps4
    go_wp2_with (go_at_call 14; refine (bytes_ins _ _ _ _ _ _ _ _ hb').mono ?_; rintro e w' ⟨rfl, rfl⟩)
    go_ret
    exact ⟨rfl, Below.refl _ _⟩
  by_cases h2 : n < 0
  · go_enter Try.func4, Try.ntmps4
    go_wp2_with (go_at_call 14; refine (bytes_ins _ _ _ _ _ _ _ _ hb').mono ?_; rintro e w' ⟨rfl, rfl⟩)
    go_ret
    exact ⟨rfl, Below.refl _ _⟩
  by_cases h3 : 65536 < n
  · go_enter Try.func4, Try.ntmps4
    go_wp2_with (go_at_call 14; refine (bytes_ins _ _ _ _ _ _ _ _ hb').mono ?_; rintro e w' ⟨rfl, rfl⟩)
    go_ret
    exact ⟨rfl, Below.refl _ _⟩
  by_cases h4 : p < 0
  · go_enter Try.func4, Try.ntmps4
    go_wp2_with (go_at_call 14; refine (bytes_ins _ _ _ _ _ _ _ _ hb').mono ?_; rintro e w' ⟨rfl, rfl⟩)
    go_ret
    exact ⟨rfl, Below.refl _ _⟩
  have h5 : (m : Int) < p := by omega
  clear h
  go_enter Try.func4, Try.ntmps4
  go_wp2_with (go_at_call 14; refine (bytes_ins _ _ _ _ _ _ _ _ hb').mono ?_; rintro e w' ⟨rfl, rfl⟩)
  go_ret
  exact ⟨rfl, Below.refl _ _⟩
end Go.Proofs.Qxb6616689a.Hd
