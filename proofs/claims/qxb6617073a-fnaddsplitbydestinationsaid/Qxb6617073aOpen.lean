import Derived.Test.Qxb6617073aSplitA
import Derived.ProofKit
import Derived.OpenShut
import Derived.ShutString
import Derived.ChangeOld
import Derived.Below
import Derived.Deep.Slices
namespace Go.Proofs.Qxb6617073a
open Go.ChangeShapes Go.WideShapes Go.ChangeAt Go.RowKit

theorem cells22 : Try.prog.cellsOf 22 = 1 := by kernel_rfl
theorem cells24 : Try.prog.cellsOf 24 = 14 := by kernel_rfl
theorem cells32 : Try.prog.cellsOf 32 = 6 := by kernel_rfl
theorem cells3 : Try.prog.cellsOf 3 = 1 := by kernel_rfl
theorem cells5 : Try.prog.cellsOf 5 = 1 := by kernel_rfl
theorem cells4 : Try.prog.cellsOf 4 = 1 := by kernel_rfl
theorem own24 : Try.prog.underlying 24 = some (.struct (Try.prog.fieldsOf 24)) := by kernel_rfl
theorem own32 : Try.prog.underlying 32 = some (.struct (Try.prog.fieldsOf 32)) := by kernel_rfl
theorem flds24 : (Try.prog.fieldsOf 24).size = 14 ∧ ((List.range 14).all fun i => (Try.prog.fieldsOf 24)[i]?.any fun f => f.type == 22 && f.offset == i) = true := ⟨by kernel_rfl, by kernel_rfl⟩
/-- Field i of type t lies at place i. -/
theorem flds32 : (Try.prog.fieldsOf 32).size = 6 ∧ (([3, 5, 22, 3, 4, 4] : List Nat).zipIdx.all fun p => (Try.prog.fieldsOf 32)[p.2]?.any fun f => f.type == p.1 && f.offset == p.2) = true := ⟨by kernel_rfl, by kernel_rfl⟩

/-- The number in a cell. -/
def numOf : Option Value → Int
  | some (.int _ n) => n
  | _ => 0

section
variable {H : Type} {enc : TypeId × Value → H} {w : World} {base : Nat} {spare : Nat → Bool} {held : Bool}

theorem u64_ok {n : Int} (h : (Lit.int .u64 n).wf = true) : IntKind.u64.wrap n = n := by
  obtain ⟨h1, h2⟩ := bounds_u64 h
  rw [wrapU]; omega

/-- One one-cell field of a struct that reads as data. -/
theorem field_of {t : TypeId} {fs : Array Field} {fuel : Nat} {cs : List Value} {x : DataW H × List MemPlace} (ht : Try.prog.underlying t = some (.struct fs)) (h : DataW.trod enc Try.prog w base spare held fuel t cs = some x)
    {i : Nat} {e : TypeId} (hf : (fs[i]?.any fun f => f.type == e && f.offset == i) = true) (he : Try.prog.cellsOf e = 1) : ∃ n y, DataW.trod enc Try.prog w base spare held n e ((cs.drop i).take 1) = some y := by
  obtain ⟨xs, n, _, _, _, hlen, hall⟩ := DataW.trod_struct ht h
  cases hfi : fs[i]? with
  | none => rw [hfi] at hf; cases hf
  | some f =>
    rw [hfi] at hf
    simp at hf
    obtain ⟨rfl, h2⟩ := hf
    have := hall i f hfi
    rw [h2, he] at this
    have hi : i < xs.length := by rw [hlen]; exact (Array.getElem?_eq_some_iff.1 hfi).1
    rw [List.getElem?_eq_getElem hi] at this
    exact ⟨n, _, this⟩

theorem one_of_take {cs : List Value} {i : Nat} {v : Value} (h : (cs.drop i).take 1 = [v]) : cs[i]? = some v := by
  have : ((cs.drop i).take 1)[0]? = some v := by rw [h]; rfl
  rw [List.getElem?_take_of_lt (by omega), List.getElem?_drop] at this
  simpa using this

/-- A Tally by value: fourteen numbers of 64 bits. -/
theorem open24 {r : Reach} {b0 : Nat} {v : Value} {d : DataW H} {p : List MemPlace} (hv : Value.okWide Try.prog w r b0 24 v) (h : DataW.Trod enc Try.prog w base spare held 24 v d p) :
    ∃ c : Nat → Int, v = .agg (row14 c) ∧ ∀ j, j < 14 → IntKind.u64.wrap (c j) = c j := by
  obtain ⟨cs, rfl, hsz⟩ := okWide_struct own24 hv
  rw [cells24] at hsz
  obtain ⟨fuel, hf⟩ := h
  have each : ∀ i, i < 14 → ∃ n, cs[i]? = some (.int .u64 n) ∧ (Lit.int .u64 n).wf = true := by
    intro i hi
    obtain ⟨n, y, hy⟩ := field_of own24 hf (i := i) (e := 22) (List.all_eq_true.1 flds24.2 i (List.mem_range.2 hi)) cells22
    obtain ⟨z, h1, _, h2⟩ := DataW.trod_int Try.underlying22 hy
    refine ⟨z, ?_, h2⟩
    have := one_of_take h1
    simpa [Value.cells] using this
  refine ⟨fun j => numOf cs[j]?, ?_, fun j hj => ?_⟩
  · congr 1
    apply Array.ext_getElem?
    intro i
    by_cases hi : i < 14
    · obtain ⟨z, hz, _⟩ := each i hi
      rw [hz]
      match i, hi with
      | 0, _ => simp [row14, hz, numOf]
      | 1, _ => simp [row14, hz, numOf]
      | 2, _ => simp [row14, hz, numOf]
      | 3, _ => simp [row14, hz, numOf]
      | 4, _ => simp [row14, hz, numOf]
      | 5, _ => simp [row14, hz, numOf]
      | 6, _ => simp [row14, hz, numOf]
      | 7, _ => simp [row14, hz, numOf]
      | 8, _ => simp [row14, hz, numOf]
      | 9, _ => simp [row14, hz, numOf]
      | 10, _ => simp [row14, hz, numOf]
      | 11, _ => simp [row14, hz, numOf]
      | 12, _ => simp [row14, hz, numOf]
      | 13, _ => simp [row14, hz, numOf]
    · rw [Array.getElem?_eq_none (by omega), Array.getElem?_eq_none (by simp [row14]; omega)]
  · obtain ⟨z, hz, hw⟩ := each j hj
    show IntKind.u64.wrap (numOf cs[j]?) = numOf cs[j]?
    rw [hz]
    exact u64_ok hw

/-- One message's six cells. -/
theorem open32 {fuel : Nat} {cs : List Value} {x : DataW H × List MemPlace} (h : DataW.trod enc Try.prog w base spare held fuel 32 cs = some x) :
    ∃ m : Msg, cs[0]? = some (.int .i64 m.size) ∧ cs[1]? = some (.int .u8 m.cls) ∧ cs[2]? = some (.int .u64 m.frm) ∧ cs[3]? = some (.int .i64 m.ent) ∧ cs[4]? = some (.bool m.tl) ∧ cs[5]? = some (.bool m.tf) ∧ (m.cls : Int) < 256 := by
  have all := List.all_eq_true.1 flds32.2
  obtain ⟨_, _, y0⟩ := field_of own32 h (i := 0) (e := 3) (all (3, 0) (by decide)) cells3
  obtain ⟨_, _, y1⟩ := field_of own32 h (i := 1) (e := 5) (all (5, 1) (by decide)) cells5
  obtain ⟨_, _, y2⟩ := field_of own32 h (i := 2) (e := 22) (all (22, 2) (by decide)) cells22
  obtain ⟨_, _, y3⟩ := field_of own32 h (i := 3) (e := 3) (all (3, 3) (by decide)) cells3
  obtain ⟨_, _, y4⟩ := field_of own32 h (i := 4) (e := 4) (all (4, 4) (by decide)) cells4
  obtain ⟨_, _, y5⟩ := field_of own32 h (i := 5) (e := 4) (all (4, 5) (by decide)) cells4
  obtain ⟨s, h0, _, _⟩ := DataW.trod_int Try.underlying3 y0
  obtain ⟨c, h1, _, w1⟩ := DataW.trod_int Try.underlying5 y1
  obtain ⟨f, h2, _, _⟩ := DataW.trod_int Try.underlying22 y2
  obtain ⟨e, h3, _, _⟩ := DataW.trod_int Try.underlying3 y3
  obtain ⟨tl, h4, _⟩ := DataW.trod_bool Try.underlying4 y4
  obtain ⟨tf, h5, _⟩ := DataW.trod_bool Try.underlying4 y5
  obtain ⟨c0, c1⟩ := bounds_u8 w1
  obtain ⟨k, rfl⟩ : ∃ k : Nat, c = k := ⟨c.toNat, by omega⟩
  exact ⟨⟨s, k, f, e, tl, tf⟩, one_of_take h0, one_of_take h1, one_of_take h2, one_of_take h3, one_of_take h4, one_of_take h5, by show (k : Int) < 256; omega⟩

/-- A slice of messages that reads as data. -/
theorem open25 {fuel : Nat} {a : Option Addr} {n d : Nat} {x : DataW H × List MemPlace} (h : DataW.trod enc Try.prog w base (fun _ => true) held fuel 25 [.slice a n d] = some x) :
    ∃ M : Nat → Msg, Msgs w a n M w.heap.size := by
  rcases Go.Deep.open_slice Try.underlying25 h with ⟨hcs, _⟩ | ⟨ad, len, cap, m, n', D, Pl, hcs, _, hl, _, hm, _, hall⟩
  · simp at hcs
    exact ⟨fun _ => ⟨0, 0, 0, 0, false, false⟩, fun hn => by omega⟩
  · simp at hcs
    obtain ⟨rfl, rfl, rfl⟩ := hcs
    simp only [if_true] at hm
    have each : ∀ i, i < n → ∃ q : Msg, w.cell? ((ad.add (i * 6)).add 0) = some (.int .i64 q.size) ∧ w.cell? ((ad.add (i * 6)).add 1) = some (.int .u8 q.cls) ∧ w.cell? ((ad.add (i * 6)).add 2) = some (.int .u64 q.frm) ∧ w.cell? ((ad.add (i * 6)).add 3) = some (.int .i64 q.ent) ∧ w.cell? ((ad.add (i * 6)).add 4) = some (.bool q.tl) ∧ w.cell? ((ad.add (i * 6)).add 5) = some (.bool q.tf) ∧ (q.cls : Int) < 256 := by
      intro i hi
      obtain ⟨cs', h1, h2⟩ := hall i (by omega)
      rw [cells32] at h1
      obtain ⟨_, _, h3⟩ := World.cells?_some h1
      obtain ⟨q, q0, q1, q2, q3, q4, q5, qc⟩ := open32 h2
      exact ⟨q, (h3 0 (by omega)).trans q0, (h3 1 (by omega)).trans q1, (h3 2 (by omega)).trans q2, (h3 3 (by omega)).trans q3, (h3 4 (by omega)).trans q4, (h3 5 (by omega)).trans q5, qc⟩
    refine ⟨fun i => if hi : i < n then Classical.choose (each i hi) else ⟨0, 0, 0, 0, false, false⟩, fun hn => ?_⟩
    obtain ⟨b, off, spot⟩ := ad
    have hspot : spot = none := by
      obtain ⟨q, q0, _⟩ := each 0 hn
      simpa [Addr.add] using World.cell?_spot q0
    subst hspot
    refine ⟨b, off, rfl, ?_, fun i hi => ?_⟩
    · obtain ⟨q, q0, _⟩ := each 0 hn
      have := World.block_lt_of_cell? _ _ q0
      simpa [Addr.add] using this
    · have := Classical.choose_spec (each i hi)
      simp only [dif_pos hi]
      simpa [add_plain] using this
end
end Go.Proofs.Qxb6617073a
