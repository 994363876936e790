import Derived.Test.Qxb6617073aAdd
import Derived.Test.Qxb6617073aOne
import Derived.Test.Qxb6617073aRow14
namespace Go.Proofs.Qxb6617073a
open Go.RowKit

theorem Row.laid (w : World) (g : Nat → Int) (ok : ∀ j, j < 14 → IntKind.u64.wrap (g j) = g j) (t : TypeId) : Row (w.alloc (.cells #[.int .u64 (g 0), .int .u64 (g 1), .int .u64 (g 2), .int .u64 (g 3), .int .u64 (g 4), .int .u64 (g 5), .int .u64 (g 6), .int .u64 (g 7), .int .u64 (g 8), .int .u64 (g 9), .int .u64 (g 10), .int .u64 (g 11), .int .u64 (g 12), .int .u64 (g 13)] t)) w.heap.size g where
  lt := by simp
  cell := fun j hj => by
    rw [World.cell?_alloc_new]
    match j, hj with
    | 0, _ => rfl
    | 1, _ => rfl
    | 2, _ => rfl
    | 3, _ => rfl
    | 4, _ => rfl
    | 5, _ => rfl
    | 6, _ => rfl
    | 7, _ => rfl
    | 8, _ => rfl
    | 9, _ => rfl
    | 10, _ => rfl
    | 11, _ => rfl
    | 12, _ => rfl
    | 13, _ => rfl
  free := fun j => by simp
  ok := ok

theorem tocounts_e (g : Nat → Int) (w : World) : Calls Try.prog 5 #[.agg #[.int .u64 (g 0), .int .u64 (g 1), .int .u64 (g 2), .int .u64 (g 3), .int .u64 (g 4), .int .u64 (g 5), .int .u64 (g 6), .int .u64 (g 7), .int .u64 (g 8), .int .u64 (g 9), .int .u64 (g 10), .int .u64 (g 11), .int .u64 (g 12), .int .u64 (g 13)]] w fun e w' => e = .returned (.agg #[.int .u64 (g 0), .int .u64 (g 1), .int .u64 (g 2), .int .u64 (g 3), .int .u64 (g 4), .int .u64 (g 5), .int .u64 (g 6), .int .u64 (g 7), .int .u64 (g 8), .int .u64 (g 9), .int .u64 (g 10), .int .u64 (g 11), .int .u64 (g 12), .int .u64 (g 13)]) ∧ Below w.heap.size w w' := tocounts_any g w
theorem tally_e (g : Nat → Int) (w : World) : Calls Try.prog 6 #[.agg #[.int .u64 (g 0), .int .u64 (g 1), .int .u64 (g 2), .int .u64 (g 3), .int .u64 (g 4), .int .u64 (g 5), .int .u64 (g 6), .int .u64 (g 7), .int .u64 (g 8), .int .u64 (g 9), .int .u64 (g 10), .int .u64 (g 11), .int .u64 (g 12), .int .u64 (g 13)]] w fun e w' => e = .returned (.agg #[.int .u64 (g 0), .int .u64 (g 1), .int .u64 (g 2), .int .u64 (g 3), .int .u64 (g 4), .int .u64 (g 5), .int .u64 (g 6), .int .u64 (g 7), .int .u64 (g 8), .int .u64 (g 9), .int .u64 (g 10), .int .u64 (g 11), .int .u64 (g 12), .int .u64 (g 13)]) ∧ Below w.heap.size w w' := tally_any g w
theorem counts_e (g : Nat → Int) (w : World) : Calls Try.prog 9 #[.agg #[.int .u64 (g 0), .int .u64 (g 1), .int .u64 (g 2), .int .u64 (g 3), .int .u64 (g 4), .int .u64 (g 5), .int .u64 (g 6), .int .u64 (g 7), .int .u64 (g 8), .int .u64 (g 9), .int .u64 (g 10), .int .u64 (g 11), .int .u64 (g 12), .int .u64 (g 13)]] w fun e w' => e = .returned (.agg #[.int .u64 (g 0), .int .u64 (g 1), .int .u64 (g 2), .int .u64 (g 3), .int .u64 (g 4), .int .u64 (g 5), .int .u64 (g 6), .int .u64 (g 7), .int .u64 (g 8), .int .u64 (g 9), .int .u64 (g 10), .int .u64 (g 11), .int .u64 (g 12), .int .u64 (g 13)]) ∧ Below w.heap.size w w' := counts_any g w
theorem bytes_yes_e (g : Nat → Int) (a : Option Addr) (n c : Nat) (w : World) (hn : n ≤ 1048576) : Calls Try.prog 4 #[.agg #[.int .u64 (g 0), .int .u64 (g 1), .int .u64 (g 2), .int .u64 (g 3), .int .u64 (g 4), .int .u64 (g 5), .int .u64 (g 6), .int .u64 (g 7), .int .u64 (g 8), .int .u64 (g 9), .int .u64 (g 10), .int .u64 (g 11), .int .u64 (g 12), .int .u64 (g 13)], .slice a n c] w fun e w' => e = .returned (.bool true) ∧ Below w.heap.size w w' := bytes_yes g a n c w hn
theorem bytes_no_e (g : Nat → Int) (a : Option Addr) (n c : Nat) (w : World) (hn : 1048576 < n) : Calls Try.prog 4 #[.agg #[.int .u64 (g 0), .int .u64 (g 1), .int .u64 (g 2), .int .u64 (g 3), .int .u64 (g 4), .int .u64 (g 5), .int .u64 (g 6), .int .u64 (g 7), .int .u64 (g 8), .int .u64 (g 9), .int .u64 (g 10), .int .u64 (g 11), .int .u64 (g 12), .int .u64 (g 13)], .slice a n c] w fun e w' => e = .returned (.bool false) ∧ Below w.heap.size w w' := bytes_no g a n c w hn

/-- One message. -/
structure Msg where
  size : Int
  cls : Nat
  frm : Int
  ent : Int
  tl : Bool
  tf : Bool

/-- The slice at 'a' of 'n' messages reads M 0, .., M (n - 1). -/
def Msgs (w : World) (a : Option Addr) (n : Nat) (M : Nat → Msg) (hi : Nat) : Prop :=
  0 < n → ∃ b off, a = some ⟨b, off, none⟩ ∧ b < hi ∧ ∀ i, i < n → w.cell? ⟨b, off + i * 6, none⟩ = some (.int .i64 (M i).size) ∧ w.cell? ⟨b, off + i * 6 + 1, none⟩ = some (.int .u8 (M i).cls) ∧ w.cell? ⟨b, off + i * 6 + 2, none⟩ = some (.int .u64 (M i).frm) ∧
    w.cell? ⟨b, off + i * 6 + 3, none⟩ = some (.int .i64 (M i).ent) ∧ w.cell? ⟨b, off + i * 6 + 4, none⟩ = some (.bool (M i).tl) ∧ w.cell? ⟨b, off + i * 6 + 5, none⟩ = some (.bool (M i).tf) ∧ ((M i).cls : Int) < 256

/-- Start plus two sums, in 64 bits. -/
def tot (c s t : Nat → Int) : Nat → Int := fun j => IntKind.u64.wrap (c j + s j + t j)
/-- A sum, in 64 bits. -/
def low (s : Nat → Int) : Nat → Int := fun j => IntKind.u64.wrap (s j)
/-- A sum and what one message adds. -/
def more (s : Nat → Int) (m : Msg) : Nat → Int := fun j => s j + inc m.size m.cls m.ent m.tl j
theorem tot_ok (c s t : Nat → Int) (j : Nat) : IntKind.u64.wrap (tot c s t j) = tot c s t j := wrap_wrap _
theorem low_ok (s : Nat → Int) (j : Nat) : IntKind.u64.wrap (low s j) = low s j := wrap_wrap _
theorem tot_left (c s t : Nat → Int) (m : Msg) (j : Nat) : step (tot c s t) m.size m.cls m.ent m.tl j = tot c (more s m) t j := by
  unfold step tot more; rw [wrap_wrap_add]; congr 1; omega
theorem tot_right (c s t : Nat → Int) (m : Msg) (j : Nat) : step (tot c s t) m.size m.cls m.ent m.tl j = tot c s (more t m) j := by
  unfold step tot more; rw [wrap_wrap_add]; congr 1; omega
theorem low_more (s : Nat → Int) (m : Msg) (j : Nat) : step (low s) m.size m.cls m.ent m.tl j = low (more s m) j := by
  unfold step low more; rw [wrap_wrap_add]
theorem tot_sum (c s t : Nat → Int) (j : Nat) : IntKind.u64.wrap (IntKind.u64.wrap (c j + low s j) + low t j) = tot c s t j := by
  unfold low tot; rw [wrap_add_wrap, wrap_add_wrap, wrap_wrap_add]

/-- What holds at the head of each round: the start's box, the total, the two parts, the model's row. -/
structure LInv (w wr : World) (C T F S K : Nat) (c s t : Nat → Int) : Prop where
  bel : Below w.heap.size w wr
  rC : Row wr C c
  rT : Row wr T (tot c s t)
  rF : Row wr F (low s)
  rS : Row wr S (low t)
  rK : Row wr K (tot c s t)

end Go.Proofs.Qxb6617073a
