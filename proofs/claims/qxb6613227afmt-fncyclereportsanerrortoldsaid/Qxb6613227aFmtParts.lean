/-
  Plain facts, outside the walks: the include chain in memory; the parts that String gathers; sizes.
-/
import Derived.WalkKit
import Derived.Lib.Join
import Derived.Lib.RowBridge
import Derived.Laws.IdiomCopy
namespace Go.Proofs.Qxb6613227aFmt
open Go.RowKit

/-- THE CHAIN IN MEMORY: from the pointer q on there lie the names l, one node a name; each node's From lies in an earlier block. -/
def Chain (w : World) : Option Addr → List ByteArray → Prop
  | q, [] => q = none
  | q, s :: l => ∃ (b : Nat) (q' : Option Addr) (nd : Bool), q = some ⟨b, 0, none⟩ ∧ w.cell? ⟨b, 0, none⟩ = some (.pointer q') ∧ w.cell? ⟨b, 1, none⟩ = some (.string s) ∧
      w.cell? ⟨b, 2, none⟩ = some (.bool nd) ∧ (∀ a, q' = some a → a.block < b) ∧ Chain w q' l

/-- All bytes of a list of texts. -/
def total : List ByteArray → Nat
  | [] => 0
  | s :: l => s.size + total l

theorem total_append (a b : List ByteArray) : total (a ++ b) = total a + total b := by
  induction a with
  | nil => simp [total]
  | cons s l ih => simp [total, ih]; omega

theorem total_reverse (a : List ByteArray) : total a.reverse = total a := by
  induction a with
  | nil => rfl
  | cons s l ih => simp [total_append, total, ih]; omega

/-- The measure of a pointer: one more than its block's number; nil: nought. -/
def rank : Value → Nat
  | .pointer (some a) => a.block + 1
  | _ => 0

theorem Chain.lt {w : World} {q : Option Addr} {l : List ByteArray} (h : Chain w q l) : ∀ a, q = some a → a.block < w.heap.size := by
  intro a ha
  cases l with
  | nil => unfold Chain at h; rw [h] at ha; cases ha
  | cons s l =>
    unfold Chain at h
    obtain ⟨b, q', nd, rfl, h0, _⟩ := h
    cases ha
    exact World.block_lt_of_cell? _ _ h0

theorem Chain.below {w w' : World} (hb : Below w.heap.size w w') : ∀ {l : List ByteArray} {q : Option Addr}, Chain w q l → Chain w' q l := by
  intro l
  induction l with
  | nil => intro q h; unfold Chain at h ⊢; exact h
  | cons s l ih =>
    intro q h
    unfold Chain at h ⊢
    obtain ⟨b, q', nd, rfl, h0, h1, h2, h3, h4⟩ := h
    have hlt : b < w.heap.size := World.block_lt_of_cell? _ _ h0
    exact ⟨b, q', nd, rfl, (hb.cell (by exact hlt)).trans h0, (hb.cell (by exact hlt)).trans h1, (hb.cell (by exact hlt)).trans h2, h3, ih h4⟩

/-- A new node ahead of a chain. -/
theorem Chain.push {w : World} {q : Option Addr} {l : List ByteArray} (h : Chain w q l) (s : ByteArray) (nd : Bool) :
    Chain (w.alloc (.cells #[.pointer q, .string s, .bool nd] 27)) (some ⟨w.heap.size, 0, none⟩) (s :: l) := by
  unfold Chain
  refine ⟨w.heap.size, q, nd, rfl, ?_, ?_, ?_, h.lt, h.below ((Below.refl _ _).alloc (Nat.le_refl _) _)⟩
  · simp
  · simp
  · simp

theorem join_nil_length (xs : List (List UInt8)) : (Lib.join xs []).length = Lib.lens xs := by
  cases xs with
  | nil => rfl
  | cons x r => rw [Lib.join_length]; simp

theorem lens_total (xs : List ByteArray) : Lib.lens (xs.map (·.data.toList)) = total xs := by
  induction xs with
  | nil => rfl
  | cons s l ih =>
    simp only [List.map_cons, total, ← ih, Lib.lens]
    rfl
end Go.Proofs.Qxb6613227aFmt
