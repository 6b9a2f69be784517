/-
  Plain facts on rows of cells that the call itself has made.
-/
import Derived.WalkKit
import Derived.Deep.MidRow
import Derived.Laws.OwnMore
namespace Go.Proofs.Qxb6613741a
open Go.RowKit

/-- Block g has N cells that may be written; each holds a value of one cell. -/
def Good (w : World) (g N : Nat) : Prop := ∀ j, j < N → ∃ v, w.cell? ⟨g, j, none⟩ = some v ∧ v.oneCell' = true ∧ w.frozen? ⟨g, j, none⟩ = false

theorem Good.there {w : World} {g N : Nat} (h : Good w g N) (o n : Nat) (ho : o + n ≤ N) : w.there g o n := by
  intro j hj
  obtain ⟨v, h1, _, h3⟩ := h (o + j) (by omega)
  exact ⟨by rw [h1]; rfl, h3⟩

theorem Good.setCells {w : World} {g N : Nat} (h : Good w g N) (o : Nat) (vs : List Value) (ho : o + vs.length ≤ N) (h1 : ∀ v ∈ vs, v.oneCell' = true) : Good (w.setCells g o vs) g N := by
  intro j hj
  obtain ⟨v, c1, c2, c3⟩ := h j hj
  have hf : (w.setCells g o vs).frozen? ⟨g, j, none⟩ = false := by rw [World.frozen?_setCells]; exact c3
  by_cases hin : o ≤ j ∧ j < o + vs.length
  · obtain ⟨i, hi⟩ : ∃ i, j = o + i := ⟨j - o, by omega⟩
    subst hi
    have hl : i < vs.length := by omega
    refine ⟨vs[i], ?_, h1 _ (List.getElem_mem hl), hf⟩
    exact World.cell?_setCells_in g vs o w (fun t ht => by obtain ⟨u, hu, _⟩ := h (o + t) (by omega); rw [hu]; rfl) i hl
  · refine ⟨v, ?_, c2, hf⟩
    rw [World.cell?_setCells_out g vs o w ⟨g, j, none⟩ (fun _ _ => by show j < o ∨ o + vs.length ≤ j; omega)]
    exact c1

theorem Good.below {w w' : World} {g N B : Nat} (h : Good w g N) (hb : Below B w w') (hg : g < B) : Good w' g N := by
  intro j hj
  obtain ⟨v, c1, c2, c3⟩ := h j hj
  exact ⟨v, (hb.cell (by exact hg)).trans c1, c2, (hb.frozen (by exact hg)).trans c3⟩

theorem Good.of_own {w : World} {B : Nat} {e : TypeId} {size g n cap : Nat} {xs : List Value} (h : w.ownsRow B e size (.slice (some ⟨g, 0, none⟩) n cap) n xs) (h1 : ∀ u ∈ xs, u.oneCell' = true) : Good w g (n * size) := by
  intro j hj
  have hl : xs.length = n * size := h.1
  have hx : j < xs.length := by omega
  refine ⟨xs[j], ?_, h1 _ (List.getElem_mem hx), h.frozenAt j⟩
  rw [h.cellAt j hj, List.getElem?_eq_getElem hx]

/-- Seventeen cells. -/
def row17 (f : Nat → Value) : List Value := [f 0, f 1, f 2, f 3, f 4, f 5, f 6, f 7, f 8, f 9, f 10, f 11, f 12, f 13, f 14, f 15, f 16]
/-- The sixteen cells of an instruction's Arg. -/
def row16 (x : Nat → Int) : List Value := [.int .u8 (x 1), .int .u8 (x 2), .int .u8 (x 3), .int .u8 (x 4), .int .u8 (x 5), .int .u8 (x 6), .int .u8 (x 7), .int .u8 (x 8), .int .u8 (x 9), .int .u8 (x 10), .int .u8 (x 11), .int .u8 (x 12), .int .u8 (x 13), .int .u8 (x 14), .int .u8 (x 15), .int .u8 (x 16)]
/-- An instruction's seventeen cells. -/
def instr17 (x : Nat → Int) : List Value := row17 fun j => .int .u8 (x j)

theorem row17_length (f : Nat → Value) : (row17 f).length = 17 := rfl
theorem row16_length (x : Nat → Int) : (row16 x).length = 16 := rfl
theorem instr17_length (x : Nat → Int) : (instr17 x).length = 17 := rfl
theorem row17_eq (f : Nat → Value) : row17 f = (List.range 17).map f := rfl
theorem row16_eq (x : Nat → Int) : row16 x = (List.range 16).map fun j => Value.int .u8 (x (1 + j)) := rfl

theorem row17_at (f : Nat → Value) (j : Nat) (v : Value) (h : (row17 f)[j]? = some v) : j < 17 ∧ v = f j := by
  rw [row17_eq, List.getElem?_map] at h
  obtain ⟨i, hi, rfl⟩ := Option.map_eq_some_iff.1 h
  obtain ⟨h1, h2⟩ := List.getElem?_eq_some_iff.1 hi
  simp at h1 h2
  exact ⟨h1, by rw [← h2]⟩

theorem row16_at (x : Nat → Int) (j : Nat) (v : Value) (h : (row16 x)[j]? = some v) : j < 16 ∧ v = .int .u8 (x (1 + j)) := by
  rw [row16_eq, List.getElem?_map] at h
  obtain ⟨i, hi, rfl⟩ := Option.map_eq_some_iff.1 h
  obtain ⟨h1, h2⟩ := List.getElem?_eq_some_iff.1 hi
  simp at h1 h2
  exact ⟨h1, by rw [← h2]⟩

theorem row16_one (x : Nat → Int) : ∀ v ∈ row16 x, v.oneCell' = true := by
  intro v hv
  obtain ⟨j, hj⟩ := List.getElem?_of_mem hv
  rw [(row16_at x j v hj).2]; rfl

theorem instr17_one (x : Nat → Int) : ∀ v ∈ instr17 x, v.oneCell' = true := by
  intro v hv
  obtain ⟨j, hj⟩ := List.getElem?_of_mem hv
  rw [(row17_at _ j v hj).2]; rfl

/-- Out of a good row: seventeen cells from o on. -/
theorem Good.row {w : World} {g N : Nat} (h : Good w g N) (o : Nat) (ho : o + 17 ≤ N) : ∃ f : Nat → Value, w.rangeAt g o (row17 f) ∧ ∀ v ∈ row17 f, v.oneCell' = true := by
  refine ⟨fun j => (w.cell? ⟨g, o + j, none⟩).getD (.bool false), ?_, ?_⟩
  · intro j v hj
    obtain ⟨hlt, rfl⟩ := row17_at _ j v hj
    obtain ⟨u, hu, _⟩ := h (o + j) (by omega)
    rw [hu]; rfl
  · intro v hv
    obtain ⟨j, hj⟩ := List.getElem?_of_mem hv
    obtain ⟨hlt, rfl⟩ := row17_at _ j v hj
    obtain ⟨u, hu, h1, _⟩ := h (o + j) (by omega)
    rw [hu]; exact h1

theorem made_one (z : Array Value) (m : Nat) (hz : ∀ u ∈ z.toList, u.oneCell' = true) (h0 : 0 < z.size) : ∀ u ∈ (madeCells z m).toList, u.oneCell' = true := by
  intro u hu
  rw [madeCells, Array.toList_map, List.mem_map] at hu
  obtain ⟨i, _, rfl⟩ := hu
  have hlt : i % z.size < z.size := Nat.mod_lt _ h0
  rw [getElem!_pos z (i % z.size) hlt]
  exact hz _ (by simp)

theorem below_cells {B g : Nat} (hg : B ≤ g) {a : World} : ∀ (vs : List Value) (o : Nat) (w : World), Below B a w → Below B a (w.setCells g o vs)
  | [], _, _, h => h
  | v :: r, o, w, h => below_cells hg r (o + 1) _ (h.setCell (by exact hg) v)

theorem size_cells (w : World) (g o : Nat) (vs : List Value) : w.heap.size ≤ (w.setCells g o vs).heap.size := (below_cells (Nat.zero_le g) vs o w (Below.refl 0 w)).size

/-- 'make' of n elements, where only this is kept: the new block is good; nothing old has turned. -/
theorem wpList_make_good {P : Program} (w : World) {ops : Array Oper} {rest : List Oper} {o : Oper} {a : Act} {Q : Exit → Act → World → Prop}
    (hg : o.guard = none) (l c : Operand) (t : TypeId) (hop : o.op = Op.makeSlice t l c)
    (e : TypeId) (i : TypeInfo) (z : Value) (size : Nat) (h1 : P.underlying t = some (.slice e)) (h2 : P.info? e = some i) (h3 : i.zero = some z) (h4 : i.size = size)
    (kl kc : IntKind) (L C : Int) (n : Nat) (hl : a.eval l = .int kl L) (hc : a.eval c = .int kc C) (hL : L = (n : Int)) (hC : C = (n : Int)) (b2 : i.bytes * n ≤ 281474976710656) (b3 : n ≤ maxLen)
    (hz : ∀ u ∈ z.cells.toList, u.oneCell' = true) (hpos : 0 < z.cells.size)
    (hK : ∀ w', Hid (Good w' w.heap.size (n * size)) → Below w.heap.size w w' → w.heap.size < w'.heap.size → wpList P ops Q rest (a.put o.dst (.slice (some ⟨w.heap.size, 0, none⟩) n n)) w') :
    wpList P ops Q (o :: rest) a w := by
  refine wpList_make_full w hg l c t hop w.heap.size e i z size h1 h2 h3 h4 kl kc L C n hl hc hL hC b2 b3 (Nat.le_refl _) ?_
  intro w' hown hgrow
  refine hK w' (Good.of_own hown (made_one z.cells _ hz hpos)) ((Below.refl _ _).grown hgrow (Nat.le_refl _) (fun k hk => by cases hk)) ?_
  obtain ⟨_, hr⟩ := hown
  rcases hr with ⟨hv, _⟩ | ⟨g, cap, cur, hv, _, hh, _⟩
  · cases hv
  · cases hv
    rcases Nat.lt_or_ge w.heap.size w'.heap.size with h | h
    · exact h
    · rw [Array.getElem?_eq_none h] at hh; cases hh
end Go.Proofs.Qxb6613741a
