import Derived.Test.Qxb6617073aTally
namespace Go.Proofs.Qxb6617073a
open Go.RowKit

/-- The fourteen values of a row. -/
def row14 (g : Nat → Int) : Array Value := #[.int .u64 (g 0), .int .u64 (g 1), .int .u64 (g 2), .int .u64 (g 3), .int .u64 (g 4), .int .u64 (g 5), .int .u64 (g 6), .int .u64 (g 7), .int .u64 (g 8), .int .u64 (g 9), .int .u64 (g 10), .int .u64 (g 11), .int .u64 (g 12), .int .u64 (g 13)]

theorem laid2 (w : World) (o1 o2 : Obj) : Below w.heap.size w ((w.alloc o1).alloc o2) :=
  ((Below.refl _ _).alloc (Nat.le_refl _) _).alloc (by simp) _

theorem bytes_yes (g : Nat → Int) (a : Option Addr) (n c : Nat) (w : World) (hn : n ≤ 1048576) :
    Calls Try.prog 4 #[.agg (row14 g), .slice a n c] w fun e w' => e = .returned (.bool true) ∧ Below w.heap.size w w' := by
  unfold row14
  go_enter Try.func4, Try.ntmps4
  go_wp2
  go_ret
  exact ⟨rfl, (Below.refl _ _).alloc (Nat.le_refl _) _⟩
theorem bytes_no (g : Nat → Int) (a : Option Addr) (n c : Nat) (w : World) (hn : 1048576 < n) :
    Calls Try.prog 4 #[.agg (row14 g), .slice a n c] w fun e w' => e = .returned (.bool false) ∧ Below w.heap.size w w' := by
  unfold row14
  go_enter Try.func4, Try.ntmps4
  go_wp2
  go_ret
  exact ⟨rfl, (Below.refl _ _).alloc (Nat.le_refl _) _⟩

set_option maxRecDepth 10000 in
set_option maxHeartbeats 1000000 in
theorem tocounts_any (g : Nat → Int) (w : World) :
    Calls Try.prog 5 #[.agg (row14 g)] w fun e w' => e = .returned (.agg (row14 g)) ∧ Below w.heap.size w w' := by
  unfold row14
  go_enter Try.func5, Try.ntmps5
  go_wp2
  exact bodyPost_ret (v := .agg #[.int .u64 (g 0), .int .u64 (g 1), .int .u64 (g 2), .int .u64 (g 3), .int .u64 (g 4), .int .u64 (g 5), .int .u64 (g 6), .int .u64 (g 7), .int .u64 (g 8), .int .u64 (g 9), .int .u64 (g 10), .int .u64 (g 11), .int .u64 (g 12), .int .u64 (g 13)]) (by simp [results, Try.results5, go_sem]) rfl ⟨rfl, laid2 w _ _⟩

set_option maxRecDepth 10000 in
set_option maxHeartbeats 1000000 in
theorem tally_any (g : Nat → Int) (w : World) :
    Calls Try.prog 6 #[.agg (row14 g)] w fun e w' => e = .returned (.agg (row14 g)) ∧ Below w.heap.size w w' := by
  unfold row14
  go_enter Try.func6, Try.ntmps6
  go_wp2
  exact bodyPost_ret (v := .agg #[.int .u64 (g 0), .int .u64 (g 1), .int .u64 (g 2), .int .u64 (g 3), .int .u64 (g 4), .int .u64 (g 5), .int .u64 (g 6), .int .u64 (g 7), .int .u64 (g 8), .int .u64 (g 9), .int .u64 (g 10), .int .u64 (g 11), .int .u64 (g 12), .int .u64 (g 13)]) (by simp [results, Try.results6, go_sem]) rfl ⟨rfl, laid2 w _ _⟩

set_option maxRecDepth 10000 in
set_option maxHeartbeats 1000000 in
theorem counts_any (g : Nat → Int) (w : World) :
    Calls Try.prog 9 #[.agg (row14 g)] w fun e w' => e = .returned (.agg (row14 g)) ∧ Below w.heap.size w w' := by
  unfold row14
  go_enter Try.func9, Try.ntmps9
  go_wp2
  exact bodyPost_ret (v := .agg #[.int .u64 (g 0), .int .u64 (g 1), .int .u64 (g 2), .int .u64 (g 3), .int .u64 (g 4), .int .u64 (g 5), .int .u64 (g 6), .int .u64 (g 7), .int .u64 (g 8), .int .u64 (g 9), .int .u64 (g 10), .int .u64 (g 11), .int .u64 (g 12), .int .u64 (g 13)]) (by simp [results, Try.results9, go_sem]) rfl ⟨rfl, laid2 w _ _⟩
end Go.Proofs.Qxb6617073a
