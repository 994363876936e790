import Derived.Test.Qxb6617073aRows
import Derived.WalkKit
import Derived.WalkSpells
import Derived.WalkLawsBesides
import Derived.Deep.QuietTactic
import Derived.BigQuiet
namespace Go.Proofs.Qxb6617073a
open Go.RowKit

/-! ### Plain laws on 64-bit sums -/
theorem wrapU (n : Int) : IntKind.u64.wrap n = n % 18446744073709551616 := by simp [IntKind.wrap, IntKind.bits, IntKind.signed]
theorem wrap_add_wrap (a b : Int) : IntKind.u64.wrap (a + IntKind.u64.wrap b) = IntKind.u64.wrap (a + b) := by simp only [wrapU]; omega
theorem wrap_wrap_add (a b : Int) : IntKind.u64.wrap (IntKind.u64.wrap a + b) = IntKind.u64.wrap (a + b) := by simp only [wrapU]; omega
theorem wrap_wrap (a : Int) : IntKind.u64.wrap (IntKind.u64.wrap a) = IntKind.u64.wrap a := by simp only [wrapU]; omega

/-- What one message adds to place j of a row. -/
def inc (size : Int) (cls : Nat) (ent : Int) (tl : Bool) (j : Nat) : Int :=
  if j = 0 then 1 else if j = 1 then size else if j = 12 then ent else if j = 13 then (if tl then 1 else 0) else if j = cls + 1 then 1 else 0
/-- The row behind one message. -/
def step (g : Nat → Int) (size : Int) (cls : Nat) (ent : Int) (tl : Bool) : Nat → Int := fun j => IntKind.u64.wrap (g j + inc size cls ent tl j)
/-- g with x at place j. -/
def upd (g : Nat → Int) (j : Nat) (x : Int) : Nat → Int := fun i => if i = j then x else g i

/-- Fourteen counters in block b, which may be written. -/
structure Row (w : World) (b : Nat) (g : Nat → Int) : Prop where
  lt : b < w.heap.size
  cell : ∀ j, j < 14 → w.cell? ⟨b, j, none⟩ = some (.int .u64 (g j))
  free : ∀ j, w.frozen? ⟨b, j, none⟩ = false
  ok : ∀ j, j < 14 → IntKind.u64.wrap (g j) = g j

theorem Row.set {w : World} {b : Nat} {g : Nat → Int} (h : Row w b g) {j : Nat} (hj : j < 14) (x : Int) : Row (w.setCell ⟨b, j, none⟩ (.int .u64 (IntKind.u64.wrap x))) b (upd g j (IntKind.u64.wrap x)) where
  lt := by rw [World.size_setCell]; exact h.lt
  cell := fun i hi => by
    unfold upd
    by_cases e : i = j
    · subst e; rw [if_pos rfl]; exact World.cell?_setCell_same _ _ _ (h.cell i hi)
    · rw [if_neg e, World.cell?_setCell_other _ _ _ _ (fun h => by cases h; omega)]; exact h.cell i hi
  free := fun i => by rw [World.frozen?_setCell]; exact h.free i
  ok := fun i hi => by
    unfold upd
    by_cases e : i = j
    · rw [if_pos e]; exact wrap_wrap x
    · rw [if_neg e]; exact h.ok i hi
theorem Row.congr {w : World} {b : Nat} {g g' : Nat → Int} (h : Row w b g) (e : ∀ j, j < 14 → g j = g' j) : Row w b g' :=
  ⟨h.lt, fun j hj => by rw [← e j hj]; exact h.cell j hj, h.free, fun j hj => by rw [← e j hj]; exact h.ok j hj⟩

/-- Of what was there block b alone may have turned. -/
structure But (b : Nat) (w w' : World) : Prop where
  os : w'.os = w.os
  tape : w'.tape = w.tape
  output : w'.output = w.output
  size : w.heap.size ≤ w'.heap.size
  block : ∀ k, k < w.heap.size → k ≠ b → w'.heap[k]? = w.heap[k]?
theorem But.refl (b : Nat) (w : World) : But b w w := ⟨rfl, rfl, rfl, Nat.le_refl _, fun _ _ _ => rfl⟩
theorem But.trans {b : Nat} {x y z : World} (h : But b x y) (k : But b y z) : But b x z :=
  ⟨k.os.trans h.os, k.tape.trans h.tape, k.output.trans h.output, Nat.le_trans h.size k.size, fun i hi hb => (k.block i (Nat.lt_of_lt_of_le hi h.size) hb).trans (h.block i hi hb)⟩
theorem But.set {b : Nat} {x y : World} (h : But b x y) (j : Nat) (v : Value) : But b x (y.setCell ⟨b, j, none⟩ v) :=
  h.trans ⟨rfl, rfl, rfl, by rw [World.size_setCell]; exact Nat.le_refl _, fun k _ hk => Below.heap_setCell _ _ _ _ hk⟩
theorem But.alloc {b : Nat} {x y : World} (h : But b x y) (o : Obj) : But b x (y.alloc o) :=
  h.trans ⟨rfl, rfl, rfl, by rw [World.size_alloc]; omega, fun k hk _ => Below.heap_alloc _ _ _ hk⟩
theorem But.drew {b : Nat} {x y : World} (h : But b x y) : But b x y.drew := ⟨h.os, h.tape, h.output, h.size, h.block⟩
theorem But.drewN {b : Nat} {x y : World} (h : But b x y) (n : Nat) : But b x (y.drewN n) := ⟨h.os, h.tape, h.output, h.size, h.block⟩
theorem But.cell {b : Nat} {w w' : World} (h : But b w w') {k j : Nat} (hk : k < w.heap.size) (hb : k ≠ b) : w'.cell? ⟨k, j, none⟩ = w.cell? ⟨k, j, none⟩ := World.cell?_of_block (w := w) (h.block k hk hb)
theorem But.frozen {b : Nat} {w w' : World} (h : But b w w') {k j : Nat} (hk : k < w.heap.size) (hb : k ≠ b) : w'.frozen? ⟨k, j, none⟩ = w.frozen? ⟨k, j, none⟩ := World.frozen?_of_block (w := w) (h.block k hk hb)
theorem But.below {b B : Nat} {w w' : World} (h : But b w w') (hB : B ≤ b) (hs : B ≤ w.heap.size) : Below B w w' :=
  ⟨h.os, h.tape, h.output, h.size, fun k hk => h.block k (by omega) (by omega)⟩
theorem Row.but {b b' : Nat} {w w' : World} {g : Nat → Int} (h : Row w b' g) (k : But b w w') (hb : b' ≠ b) : Row w' b' g :=
  ⟨Nat.lt_of_lt_of_le h.lt k.size, fun j hj => (k.cell h.lt hb).trans (h.cell j hj), fun j => (k.frozen h.lt hb).trans (h.free j), h.ok⟩
theorem Row.below {b B : Nat} {w w' : World} {g : Nat → Int} (h : Row w b g) (k : Below B w w') (hb : b < B) : Row w' b g :=
  ⟨Nat.lt_of_lt_of_le h.lt k.size, fun j hj => (k.cell (p := ⟨b, j, none⟩) hb).trans (h.cell j hj), fun j => (k.frozen (p := ⟨b, j, none⟩) hb).trans (h.free j), h.ok⟩
theorem Row.alloc {b : Nat} {w : World} {g : Nat → Int} (h : Row w b g) (o : Obj) : Row (w.alloc o) b g :=
  h.below ((Below.refl w.heap.size w).alloc (Nat.le_refl _) o) h.lt
theorem Row.drew {b : Nat} {w : World} {g : Nat → Int} (h : Row w b g) : Row w.drew b g := ⟨h.lt, h.cell, h.free, h.ok⟩

/-- The three places that every message turns. -/
def upd3 (g : Nat → Int) (size ent : Int) : Nat → Int := upd (upd (upd g 0 (IntKind.u64.wrap (g 0 + 1))) 1 (IntKind.u64.wrap (g 1 + IntKind.u64.wrap size))) 12 (IntKind.u64.wrap (g 12 + IntKind.u64.wrap ent))
theorem step_in (g : Nat → Int) (size ent : Int) (c : Nat) (h1 : 1 ≤ c) (h10 : c ≤ 10) (ok : ∀ j, j < 14 → IntKind.u64.wrap (g j) = g j) (j : Nat) (hj : j < 14) :
    upd (upd3 g size ent) (c + 1) (IntKind.u64.wrap (g (c + 1) + 1)) j = step g size c ent false j := by
  have o := ok j hj
  unfold upd3 upd step inc
  by_cases e : j = c + 1
  · subst e; rw [if_pos rfl, if_neg (by omega), if_neg (by omega), if_neg (by omega), if_neg (by omega), if_pos rfl]
  rw [if_neg e]
  by_cases e12 : j = 12
  · subst e12; rw [if_pos rfl, if_neg (by omega), if_neg (by omega), if_pos rfl, wrap_add_wrap]
  rw [if_neg e12]
  by_cases e1 : j = 1
  · subst e1; rw [if_pos rfl, if_neg (by omega), if_pos rfl, wrap_add_wrap]
  rw [if_neg e1]
  by_cases e0 : j = 0
  · subst e0; rw [if_pos rfl, if_pos rfl]
  rw [if_neg e0, if_neg e0, if_neg e1, if_neg e12]
  by_cases e13 : j = 13
  · rw [if_pos e13]; simp [o]
  · rw [if_neg e13, if_neg e]; simp [o]
theorem step_inT (g : Nat → Int) (size ent : Int) (c : Nat) (h1 : 1 ≤ c) (h10 : c ≤ 10) (ok : ∀ j, j < 14 → IntKind.u64.wrap (g j) = g j) (j : Nat) (hj : j < 14) :
    upd (upd (upd3 g size ent) 13 (IntKind.u64.wrap (g 13 + 1))) (c + 1) (IntKind.u64.wrap (g (c + 1) + 1)) j = step g size c ent true j := by
  by_cases e13 : j = 13
  · subst e13
    unfold upd step inc
    rw [if_neg (by omega), if_pos rfl, if_neg (by omega), if_neg (by omega), if_neg (by omega), if_pos rfl, if_pos rfl]
  · rw [show step g size c ent true j = step g size c ent false j by unfold step inc; rw [if_neg e13, if_neg e13], ← step_in g size ent c h1 h10 ok j hj]
    unfold upd
    by_cases e : j = c + 1
    · rw [if_pos e, if_pos e]
    · rw [if_neg e, if_neg e, if_neg e13]
theorem step_out (g : Nat → Int) (size ent : Int) (c : Nat) (h1 : c = 0 ∨ 10 < c) (ok : ∀ j, j < 14 → IntKind.u64.wrap (g j) = g j) (j : Nat) (hj : j < 14) :
    upd3 g size ent j = step g size c ent false j := by
  have o := ok j hj
  unfold upd3 upd step inc
  by_cases e12 : j = 12
  · subst e12; rw [if_pos rfl, if_neg (by omega), if_neg (by omega), if_pos rfl, wrap_add_wrap]
  rw [if_neg e12]
  by_cases e1 : j = 1
  · subst e1; rw [if_pos rfl, if_neg (by omega), if_pos rfl, wrap_add_wrap]
  rw [if_neg e1]
  by_cases e0 : j = 0
  · subst e0; rw [if_pos rfl, if_pos rfl]
  rw [if_neg e0, if_neg e0, if_neg e1, if_neg e12]
  by_cases e13 : j = 13
  · rw [if_pos e13]; simp [o]
  · rw [if_neg e13, if_neg (by omega)]; simp [o]
theorem step_outT (g : Nat → Int) (size ent : Int) (c : Nat) (h1 : c = 0 ∨ 10 < c) (ok : ∀ j, j < 14 → IntKind.u64.wrap (g j) = g j) (j : Nat) (hj : j < 14) :
    upd (upd3 g size ent) 13 (IntKind.u64.wrap (g 13 + 1)) j = step g size c ent true j := by
  by_cases e13 : j = 13
  · subst e13
    unfold upd step inc
    rw [if_pos rfl, if_neg (by omega), if_neg (by omega), if_neg (by omega), if_pos rfl, if_pos rfl]
  · rw [show step g size c ent true j = step g size c ent false j by unfold step inc; rw [if_neg e13, if_neg e13], ← step_out g size ent c h1 ok j hj]
    unfold upd
    rw [if_neg e13]
end Go.Proofs.Qxb6617073a
