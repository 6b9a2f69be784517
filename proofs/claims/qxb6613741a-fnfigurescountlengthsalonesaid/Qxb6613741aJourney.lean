/-
  What the two laws share: sources carried over new memory; a Journey and a Figures in memory.
-/
import Derived.Test.Qxb6613741aFigures
import Derived.Test.Qxb6613741aInstrs
import Derived.Test.Qxb6613741aClone
namespace Go.Proofs.Qxb6613741a
open Go.RowKit

theorem Src3.below {w w' : World} {ad : Option Addr} {n : Nat} {X : Nat → Nat → Int} (h : Src3 w ad n X) (hb : Below w.heap.size w w') : Src3 w' ad n X :=
  ⟨h.1, fun hn => by
    obtain ⟨b, off, e, hc⟩ := h.2 hn
    exact ⟨b, off, e, fun k hk j hj => (hb.cell (World.block_lt_of_cell? _ _ (hc k hk j hj))).trans (hc k hk j hj)⟩⟩
theorem Src17.below {w w' : World} {ad : Option Addr} {n : Nat} {X : Nat → Nat → Int} (h : Src17 w ad n X) (hb : Below w.heap.size w w') : Src17 w' ad n X :=
  ⟨h.1, fun hn => by
    obtain ⟨b, off, e, hc⟩ := h.2 hn
    exact ⟨b, off, e, fun k hk j hj => (hb.cell (World.block_lt_of_cell? _ _ (hc k hk j hj))).trans (hc k hk j hj)⟩⟩
theorem Src1.below {w w' : World} {ad : Option Addr} {n : Nat} {X : Nat → Int} (h : Src1 w ad n X) (hb : Below w.heap.size w w') : Src1 w' ad n X :=
  ⟨h.1, fun hn => by
    obtain ⟨b, off, e, hc⟩ := h.2 hn
    exact ⟨b, off, e, fun j hj => (hb.cell (World.block_lt_of_cell? _ _ (hc j hj))).trans (hc j hj)⟩⟩

/-- A Journey's cells. -/
abbrev jObj (s1 s2 s3 : Value) : Obj := .cells #[s1, s2, s3, .slice none 0 0, .int .i64 0, .int .u8 0, .int .i64 0, .slice none 0 0, .nilIface] 43
/-- A Journey's three slices lie in block b. -/
def JAt (w : World) (b : Nat) (s1 s2 s3 : Value) : Prop := w.cell? ⟨b, 0, none⟩ = some s1 ∧ w.cell? ⟨b, 1, none⟩ = some s2 ∧ w.cell? ⟨b, 2, none⟩ = some s3
theorem jAt (u : World) (s1 s2 s3 : Value) : JAt (u.alloc (jObj s1 s2 s3)) u.heap.size s1 s2 s3 := ⟨by simp, by simp, by simp⟩
theorem JAt.below {w w' : World} {b : Nat} {s1 s2 s3 : Value} (h : JAt w b s1 s2 s3) (hb : Below w.heap.size w w') : JAt w' b s1 s2 s3 :=
  ⟨(hb.cell (World.block_lt_of_cell? _ _ h.1)).trans h.1, (hb.cell (World.block_lt_of_cell? _ _ h.2.1)).trans h.2.1, (hb.cell (World.block_lt_of_cell? _ _ h.2.2)).trans h.2.2⟩

/-- A Figures' cells. -/
abbrev fObj (a b c d e : Int) : Obj := .cells #[.int .i64 a, .int .i64 b, .int .i64 c, .int .i64 d, .int .i64 e] 45
theorem fAt {u v : World} {a b c d e : Int} (hb : Below (u.alloc (fObj a b c d e)).heap.size (u.alloc (fObj a b c d e)) v) :
    v.cell? ⟨u.heap.size, 0, none⟩ = some (.int .i64 a) ∧ v.cell? ⟨u.heap.size, 1, none⟩ = some (.int .i64 b) ∧ v.cell? ⟨u.heap.size, 2, none⟩ = some (.int .i64 c) ∧
      v.cell? ⟨u.heap.size, 3, none⟩ = some (.int .i64 d) ∧ v.cell? ⟨u.heap.size, 4, none⟩ = some (.int .i64 e) ∧ u.heap.size < v.heap.size := by
  refine ⟨?_, ?_, ?_, ?_, ?_, by have := hb.size; simp at this; omega⟩ <;> (rw [hb.cell (by simp)]; simp)

theorem ret_bool {b : Bool} (h : b = true) : Ending.returned (.bool b) = .returned (.bool true) := by rw [h]

end Go.Proofs.Qxb6613741a
