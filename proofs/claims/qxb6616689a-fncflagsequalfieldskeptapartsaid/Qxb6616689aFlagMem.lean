import Derived.Test.Qxb6616689aFlags
namespace Go.Proofs.Qxb6616689a
open Go.RowKit

/-- A slice of strings among the arguments: its shape and what it reads. -/
structure Arg (w : World) (a : Option Addr) (n c : Nat) (f : Nat → ByteArray) : Prop where
  row : Strs w a n f 0 w.heap.size
  nil : a = none → n = 0 ∧ c = 0
  max : n ≤ 9223372036854775807

/-- Three slices of strings laid in block b; their rows and b itself lie below hi. -/
structure Flags (w : World) (hi b : Nat) (a0 a1 a2 : Option Addr) (n0 n1 n2 c0 c1 c2 : Nat) (f0 f1 f2 : Nat → ByteArray) : Prop where
  lt : b < hi
  x0 : w.cell? ⟨b, 0, none⟩ = some (.slice a0 n0 c0)
  x1 : w.cell? ⟨b, 1, none⟩ = some (.slice a1 n1 c1)
  x2 : w.cell? ⟨b, 2, none⟩ = some (.slice a2 n2 c2)
  s0 : Strs w a0 n0 f0 0 hi
  s1 : Strs w a1 n1 f1 0 hi
  s2 : Strs w a2 n2 f2 0 hi

theorem Strs.widen {w : World} {a : Option Addr} {n : Nat} {f : Nat → ByteArray} {lo hi lo' hi' : Nat} (h : Strs w a n f lo hi) (h1 : lo' ≤ lo) (h2 : hi ≤ hi') : Strs w a n f lo' hi' := by
  intro hn
  obtain ⟨b, off, ha, g1, g2, g3⟩ := h hn
  exact ⟨b, off, ha, by omega, by omega, g3⟩

section
variable {w w' : World} {hi b B : Nat} {a0 a1 a2 : Option Addr} {n0 n1 n2 c0 c1 c2 : Nat} {f0 f1 f2 : Nat → ByteArray}
theorem Flags.below (h : Flags w hi b a0 a1 a2 n0 n1 n2 c0 c1 c2 f0 f1 f2) (hb : Below B w w') (hB : hi ≤ B) : Flags w' hi b a0 a1 a2 n0 n1 n2 c0 c1 c2 f0 f1 f2 := by
  have hl := h.lt
  exact ⟨h.lt, (hb.cell (p := ⟨b, 0, none⟩) (by show b < B; omega)).trans h.x0, (hb.cell (p := ⟨b, 1, none⟩) (by show b < B; omega)).trans h.x1, (hb.cell (p := ⟨b, 2, none⟩) (by show b < B; omega)).trans h.x2, h.s0.below hb hB, h.s1.below hb hB, h.s2.below hb hB⟩
theorem Flags.widen (h : Flags w hi b a0 a1 a2 n0 n1 n2 c0 c1 c2 f0 f1 f2) (hB : hi ≤ B) : Flags w B b a0 a1 a2 n0 n1 n2 c0 c1 c2 f0 f1 f2 := by
  have hl := h.lt
  exact ⟨by omega, h.x0, h.x1, h.x2, h.s0.widen (Nat.le_refl _) hB, h.s1.widen (Nat.le_refl _) hB, h.s2.widen (Nat.le_refl _) hB⟩
/-- The struct's box, laid anew over rows that are there. -/
theorem Flags.laid (h0 : Strs w a0 n0 f0 0 w.heap.size) (h1 : Strs w a1 n1 f1 0 w.heap.size) (h2 : Strs w a2 n2 f2 0 w.heap.size) :
    Flags (w.alloc (.cells #[.slice a0 n0 c0, .slice a1 n1 c1, .slice a2 n2 c2] 40)) (w.heap.size + 1) w.heap.size a0 a1 a2 n0 n1 n2 c0 c1 c2 f0 f1 f2 := by
  have hb : Below w.heap.size w (w.alloc (.cells #[.slice a0 n0 c0, .slice a1 n1 c1, .slice a2 n2 c2] 40)) := (Below.refl _ _).alloc (Nat.le_refl _) _
  exact ⟨Nat.lt_succ_self _, by simp, by simp, by simp, (h0.below hb (Nat.le_refl _)).widen (Nat.le_refl _) (Nat.le_succ _), (h1.below hb (Nat.le_refl _)).widen (Nat.le_refl _) (Nat.le_succ _), (h2.below hb (Nat.le_refl _)).widen (Nat.le_refl _) (Nat.le_succ _)⟩
end

theorem below_laid (w : World) (O : Obj) : Below w.heap.size w (w.alloc O) := (Below.refl _ _).alloc (Nat.le_refl _) _

/-- cfClone, called right behind the making of a struct's box. -/
theorem clone_laid (a : Option Addr) (n c : Nat) (f : Nat → ByteArray) (w : World) (O : Obj) (hm : n ≤ 1048576) (lo hi : Nat) (hs : Strs w a n f lo hi) (hhi : hi ≤ w.heap.size) (hnil : a = none → n = 0 ∧ c = 0) :
    Calls Try.prog 18 #[.slice a n c] (w.alloc O) fun e w' => ∃ a' c', e = .returned (.slice a' n c') ∧ Below (w.heap.size + 1) (w.alloc O) w' ∧ w.heap.size + 1 ≤ w'.heap.size ∧ (a' = none → n = 0 ∧ c' = 0) ∧ OwnStrs w' a' n f (w.heap.size + 1) w'.heap.size := by
  refine (clone_any a n c f (w.alloc O) hm lo hi (hs.below (below_laid w O) hhi) (by simp; omega) hnil).mono ?_
  rintro e w' ⟨a', c', rfl, h1, h2, h3⟩
  have h4 := h1.size
  rw [World.size_alloc] at h1 h3 h4
  exact ⟨a', c', rfl, h1, h4, h2, h3⟩

/-- The row f with the string at m replaced by s. -/
def upd (f : Nat → ByteArray) (m : Nat) (s : ByteArray) : Nat → ByteArray := fun i => if i = m then s else f i

theorem Strs.setOther {w : World} {a : Option Addr} {n : Nat} {f : Nat → ByteArray} {lo hi bg m : Nat} {x : Value} {O : Obj} (h : Strs w a n f lo hi) (hb : hi ≤ bg ∨ bg < lo) (hh : hi ≤ w.heap.size) :
    Strs ((w.setCell ⟨bg, m, none⟩ x).alloc O) a n f lo hi := by
  intro hn
  obtain ⟨b, off, ha, h1, h2, h3⟩ := h hn
  refine ⟨b, off, ha, h1, h2, fun i hi => ?_⟩
  rw [World.cell?_alloc_past _ _ _ (by simp; omega), World.cell?_setCell_other _ _ _ _ (fun h => by cases h; omega)]
  exact h3 i hi

theorem OwnStrs.upd {w : World} {n : Nat} {f : Nat → ByteArray} {lo hi bg m : Nat} {s : ByteArray} {O : Obj} (h : OwnStrs w (some ⟨bg, 0, none⟩) n f lo hi) (hm : m < n) (hh : hi ≤ w.heap.size) :
    Strs ((w.setCell ⟨bg, m, none⟩ (.string s)).alloc O) (some ⟨bg, 0, none⟩) n (upd f m s) lo hi := by
  intro hn
  obtain ⟨b, ha, h1, h2, h3⟩ := h hn
  cases ha
  refine ⟨_, 0, rfl, h1, h2, fun i hi => ?_⟩
  rw [Nat.zero_add, World.cell?_alloc_past _ _ _ (by simp; omega)]
  unfold Qxb6616689a.upd
  by_cases e : i = m
  · subst e; rw [if_pos rfl]; exact World.cell?_setCell_same _ _ _ (h3 i hm).1
  · rw [if_neg e, World.cell?_setCell_other _ _ _ _ (fun h => by cases h; omega)]; exact (h3 i hi).1

theorem Flags.setOther {w : World} {hi b bg m : Nat} {a0 a1 a2 : Option Addr} {n0 n1 n2 c0 c1 c2 : Nat} {f0 f1 f2 : Nat → ByteArray} {x : Value} {O : Obj}
    (h : Flags w hi b a0 a1 a2 n0 n1 n2 c0 c1 c2 f0 f1 f2) (hb : hi ≤ bg) (hh : hi ≤ w.heap.size) : Flags ((w.setCell ⟨bg, m, none⟩ x).alloc O) hi b a0 a1 a2 n0 n1 n2 c0 c1 c2 f0 f1 f2 := by
  have hl := h.lt
  refine ⟨h.lt, ?_, ?_, ?_, h.s0.setOther (.inl hb) hh, h.s1.setOther (.inl hb) hh, h.s2.setOther (.inl hb) hh⟩
  · rw [World.cell?_alloc_past _ _ _ (by simp; omega), World.cell?_setCell_other _ _ _ _ (fun h => by cases h; omega)]; exact h.x0
  · rw [World.cell?_alloc_past _ _ _ (by simp; omega), World.cell?_setCell_other _ _ _ _ (fun h => by cases h; omega)]; exact h.x1
  · rw [World.cell?_alloc_past _ _ _ (by simp; omega), World.cell?_setCell_other _ _ _ _ (fun h => by cases h; omega)]; exact h.x2

theorem eqB_self (f : Nat → ByteArray) (n : Nat) : eqB f f n n = true := eqB_yes fun _ _ => rfl
theorem eqB_symm (f g : Nat → ByteArray) (n m : Nat) : eqB f g n m = eqB g f m n := by
  unfold eqB
  rw [decide_eq_decide]
  constructor
  · rintro ⟨rfl, h⟩; exact ⟨rfl, fun i hi => (h i hi).symm⟩
  · rintro ⟨rfl, h⟩; exact ⟨rfl, fun i hi => (h i hi).symm⟩
theorem eqB_upd {f : Nat → ByteArray} {n m : Nat} {s : ByteArray} (hm : m < n) : eqB f (upd f m s) n n = ((f m).toList == s.toList) := by
  rw [strs_beq]
  unfold eqB upd
  rw [decide_eq_decide]
  constructor
  · rintro ⟨_, h⟩; have := h m hm; rwa [if_pos rfl] at this
  · intro h
    refine ⟨rfl, fun i hi => ?_⟩
    by_cases e : i = m
    · subst e; rw [if_pos rfl]; exact h
    · rw [if_neg e]

/-- ZZCFlagsEqual of two structs that lie in memory. -/
theorem zflags_of {w : World} {hi b hi' b' : Nat} {a0 a1 a2 p0 p1 p2 : Option Addr} {n0 n1 n2 c0 c1 c2 m0 m1 m2 d0 d1 d2 : Nat} {f0 f1 f2 g0 g1 g2 : Nat → ByteArray} (r : Bool)
    (F : Flags w hi b a0 a1 a2 n0 n1 n2 c0 c1 c2 f0 f1 f2) (G : Flags w hi' b' p0 p1 p2 m0 m1 m2 d0 d1 d2 g0 g1 g2) (h : hi ≤ w.heap.size) (h' : hi' ≤ w.heap.size)
    (hn0 : n0 ≤ 1048576) (hn1 : n1 ≤ 1048576) (hn2 : n2 ≤ 1048576) (hm0 : m0 ≤ 1048576) (hm1 : m1 ≤ 1048576) (hm2 : m2 ≤ 1048576)
    (hr : (eqB f0 g0 n0 m0 && eqB f1 g1 n1 m1 && eqB f2 g2 n2 m2) = r) :
    Calls Try.prog 19 #[.agg #[.slice a0 n0 c0, .slice a1 n1 c1, .slice a2 n2 c2], .agg #[.slice p0 m0 d0, .slice p1 m1 d1, .slice p2 m2 d2]] w fun e w' => e = .returned (.bool r) ∧ Below w.heap.size w w' :=
  zflags_any a0 a1 a2 p0 p1 p2 n0 n1 n2 m0 m1 m2 c0 c1 c2 d0 d1 d2 f0 f1 f2 g0 g1 g2 w r hn0 hn1 hn2 hm0 hm1 hm2 0 w.heap.size (Nat.le_refl _)
    (F.s0.widen (Nat.le_refl _) h) (F.s1.widen (Nat.le_refl _) h) (F.s2.widen (Nat.le_refl _) h) (G.s0.widen (Nat.le_refl _) h') (G.s1.widen (Nat.le_refl _) h') (G.s2.widen (Nat.le_refl _) h') hr
end Go.Proofs.Qxb6616689a
