/-
  How the laws' arguments, read as data, meet what the walks ask.
-/
import Derived.Test.Qxb6613741aRows
import Derived.Test.Qxb6613741aJourney
import Derived.ProofKit
import Derived.OpenShut
import Derived.Deep.Slices
import Derived.Deep.Strs
import Derived.ChangeSlices
namespace Go.Proofs.Qxb6613741a
open Go.ChangeShapes Go.WideShapes Go.ChangeAt Go.RowKit Go.Deep

theorem cells5 : Try.prog.cellsOf 5 = 1 := by kernel_rfl
theorem cells27 : Try.prog.cellsOf 27 = 17 := by kernel_rfl
theorem cells49 : Try.prog.cellsOf 49 = 3 := by kernel_rfl
theorem cells25 : Try.prog.cellsOf 25 = 16 := by kernel_rfl

section
variable {H : Type} {enc : TypeId × Value → H} {W : World} {base : Nat} {sp : Nat → Bool} {held : Bool}

theorem at_of_take {l : List Value} {i : Nat} {v : Value} (h : (l.drop i).take 1 = [v]) : l[i]? = some v := by
  have : ((l.drop i).take 1)[0]? = some v := by rw [h]; rfl
  simpa using this

theorem int_at {fuel : Nat} {l : List Value} {i : Nat} {y : DataW H × List MemPlace} (h : DataW.trod enc Try.prog W base sp held fuel 5 ((l.drop i).take (Try.prog.cellsOf 5)) = some y) : ∃ v : Int, l[i]? = some (.int .u8 v) := by
  obtain ⟨v, e, _⟩ := DataW.trod_int Try.underlying5 h
  rw [cells5] at e
  exact ⟨v, at_of_take e⟩

theorem instr_cells {fuel : Nat} {cs : List Value} {x : DataW H × List MemPlace} (h : DataW.trod enc Try.prog W base sp held fuel 27 cs = some x) :
    cs.length = 17 ∧ ∃ f : Nat → Int, ∀ j, j < 17 → cs[j]? = some (.int .u8 (f j)) := by
  obtain ⟨y0, y1, n, _, hl, h0, h1⟩ := trod_struct2 Try.underlying27 h
  have e0 := int_at (l := cs) (i := 0) h0
  obtain ⟨xs, m, _, _, _, hx, ha⟩ := DataW.trod_array Try.underlying25 h1
  refine ⟨hl.trans cells27, choose_lt (p := fun j (v : Int) => cs[j]? = some (.int .u8 v)) (fun j hj => ?_)⟩
  by_cases h00 : j = 0
  · subst h00; exact e0
  · have hlt : j - 1 < 16 := by omega
    have hs := ha (j - 1) hlt
    rw [List.getElem?_eq_getElem (by omega)] at hs
    obtain ⟨v, hv⟩ := int_at (l := (cs.drop 1).take (Try.prog.cellsOf 25)) (i := (j - 1) * Try.prog.cellsOf 5) hs
    rw [cells5, cells25, Nat.mul_one, List.getElem?_take, if_pos hlt, List.getElem?_drop, show 1 + (j - 1) = j by omega] at hv
    exact ⟨v, hv⟩

theorem addr_cells {fuel : Nat} {cs : List Value} {x : DataW H × List MemPlace} (h : DataW.trod enc Try.prog W base sp held fuel 49 cs = some x) :
    cs.length = 3 ∧ ∃ f : Nat → Int, ∀ j, j < 3 → cs[j]? = some (.int .u8 (f j)) := by
  obtain ⟨y0, y1, y2, n, _, hl, h0, h1, h2⟩ := trod_struct3 Try.underlying49 h
  have e0 := int_at (l := cs) (i := 0) h0
  have e1 := int_at (l := cs) (i := 1) h1
  have e2 := int_at (l := cs) (i := 2) h2
  refine ⟨hl.trans cells49, choose_lt (p := fun j (v : Int) => cs[j]? = some (.int .u8 v)) (fun j hj => ?_)⟩
  match j, hj with
  | 0, _ => exact e0
  | 1, _ => exact e1
  | 2, _ => exact e2
end

section
variable {H : Type} {enc : TypeId × Value → H} {W : World}

theorem src17_of {ad : Option Addr} {n c : Nat} {d : DataW H} {ps : List MemPlace} (h : DataW.Trod enc Try.prog W 0 (fun _ => true) true 23 (.slice ad n c) d ps) :
    ∃ X, Src17 W ad n X ∧ n ≤ maxLen := by
  obtain ⟨fuel, hf⟩ := h
  rcases open_slice Try.underlying23 hf with ⟨hcs, _⟩ | ⟨a, len, cap, m, fu, D, Pl, hcs, _, hl, hm, hmm, _, hx⟩
  · simp [Value.cells] at hcs
    obtain ⟨rfl, rfl, rfl⟩ := hcs
    exact ⟨fun _ _ => 0, ⟨fun _ => rfl, fun h => absurd h (by omega)⟩, by unfold maxLen; omega⟩
  · simp [Value.cells] at hcs
    obtain ⟨rfl, rfl, rfl⟩ := hcs
    simp only [if_true] at hmm
    subst hmm
    have each : ∀ k, k < n → ∃ g : Nat → Int, ∀ j, j < 17 → W.cell? ((a.add (k * 17)).add j) = some (.int .u8 (g j)) := by
      intro k hk
      obtain ⟨cs', h1, h2⟩ := hx k (by omega)
      rw [cells27] at h1
      obtain ⟨_, _, hc⟩ := World.cells?_some h1
      obtain ⟨_, f, hf'⟩ := instr_cells h2
      exact ⟨f, fun j hj => (hc j hj).trans (hf' j hj)⟩
    obtain ⟨X, hX⟩ := choose_lt each
    refine ⟨X, ⟨fun h => (by cases h), fun hpos => ?_⟩, by omega⟩
    obtain ⟨b, off, spot⟩ := a
    have hspot : spot = none := by simpa [Addr.add] using World.cell?_spot (hX 0 hpos 0 (by omega))
    subst hspot
    exact ⟨b, off, rfl, fun k hk j hj => by have := hX k hk j hj; rwa [Addr.add_mid, Addr.add_mid] at this⟩

theorem src3_of {ad : Option Addr} {n c : Nat} {d : DataW H} {ps : List MemPlace} (h : DataW.Trod enc Try.prog W 0 (fun _ => true) true 22 (.slice ad n c) d ps) :
    ∃ X, Src3 W ad n X ∧ n ≤ maxLen := by
  obtain ⟨fuel, hf⟩ := h
  rcases open_slice Try.underlying22 hf with ⟨hcs, _⟩ | ⟨a, len, cap, m, fu, D, Pl, hcs, _, hl, hm, hmm, _, hx⟩
  · simp [Value.cells] at hcs
    obtain ⟨rfl, rfl, rfl⟩ := hcs
    exact ⟨fun _ _ => 0, ⟨fun _ => rfl, fun h => absurd h (by omega)⟩, by unfold maxLen; omega⟩
  · simp [Value.cells] at hcs
    obtain ⟨rfl, rfl, rfl⟩ := hcs
    simp only [if_true] at hmm
    subst hmm
    have each : ∀ k, k < n → ∃ g : Nat → Int, ∀ j, j < 3 → W.cell? ((a.add (k * 3)).add j) = some (.int .u8 (g j)) := by
      intro k hk
      obtain ⟨cs', h1, h2⟩ := hx k (by omega)
      rw [cells49] at h1
      obtain ⟨_, _, hc⟩ := World.cells?_some h1
      obtain ⟨_, f, hf'⟩ := addr_cells h2
      exact ⟨f, fun j hj => (hc j hj).trans (hf' j hj)⟩
    obtain ⟨X, hX⟩ := choose_lt each
    refine ⟨X, ⟨fun h => (by cases h), fun hpos => ?_⟩, by omega⟩
    obtain ⟨b, off, spot⟩ := a
    have hspot : spot = none := by simpa [Addr.add] using World.cell?_spot (hX 0 hpos 0 (by omega))
    subst hspot
    exact ⟨b, off, rfl, fun k hk j hj => by have := hX k hk j hj; rwa [Addr.add_mid, Addr.add_mid] at this⟩

theorem src1_of {ad : Option Addr} {n c : Nat} {d : DataW H} {ps : List MemPlace} (h : DataW.Trod enc Try.prog W 0 (fun _ => true) true 24 (.slice ad n c) d ps) :
    ∃ X, Src1 W ad n X ∧ n ≤ maxLen := by
  obtain ⟨fuel, hf⟩ := h
  rcases open_slice Try.underlying24 hf with ⟨hcs, _⟩ | ⟨a, len, cap, m, fu, D, Pl, hcs, _, hl, hm, hmm, _, hx⟩
  · simp [Value.cells] at hcs
    obtain ⟨rfl, rfl, rfl⟩ := hcs
    exact ⟨fun _ => 0, ⟨fun _ => rfl, fun h => absurd h (by omega)⟩, by unfold maxLen; omega⟩
  · simp [Value.cells] at hcs
    obtain ⟨rfl, rfl, rfl⟩ := hcs
    simp only [if_true] at hmm
    subst hmm
    have each : ∀ k, k < n → ∃ v : Int, W.cell? (a.add k) = some (.int .u8 v) := by
      intro k hk
      obtain ⟨cs', h1, h2⟩ := hx k (by omega)
      rw [cells5, Nat.mul_one] at h1
      obtain ⟨_, _, hc⟩ := World.cells?_some h1
      obtain ⟨v, e, _⟩ := DataW.trod_int Try.underlying5 h2
      have := hc 0 (by omega)
      rw [e] at this
      exact ⟨v, by simpa [Addr.add] using this⟩
    obtain ⟨X, hX⟩ := choose_lt each
    refine ⟨X, ⟨fun h => (by cases h), fun hpos => ?_⟩, by omega⟩
    obtain ⟨b, off, spot⟩ := a
    have hspot : spot = none := by simpa [Addr.add] using World.cell?_spot (hX 0 hpos)
    subst hspot
    exact ⟨b, off, rfl, fun k hk => by have := hX k hk; rwa [Addr.add_mid] at this⟩

/-- An instruction by value. -/
theorem instr_of {r : Reach} {b0 : Nat} {v : Value} {d : DataW H} {ps : List MemPlace} (hv : Value.okWide Try.prog W r b0 27 v) (h : DataW.Trod enc Try.prog W 0 (fun _ => true) true 27 v d ps) : ∃ x : Nat → Int, v = .agg (instr17 x).toArray := by
  obtain ⟨cs, rfl, _⟩ := okWide_struct Try.underlying27 hv
  obtain ⟨fuel, hf⟩ := h
  obtain ⟨hl, x, hx⟩ := instr_cells hf
  refine ⟨x, ?_⟩
  congr 1
  apply Array.toList_inj.1
  apply List.ext_getElem?
  intro j
  have hl' : cs.toList.length = 17 := by simpa [Value.cells] using hl
  by_cases hj : j < 17
  · have e1 : cs.toList[j]? = some (.int .u8 (x j)) := by simpa [Value.cells] using hx j hj
    have e2 : (instr17 x)[j]? = some (.int .u8 (x j)) := by
      show (row17 _)[j]? = _
      rw [row17_eq, List.getElem?_map, List.getElem?_range hj]; rfl
    rw [e1]
    exact e2.symm
  · rw [List.getElem?_eq_none (by omega), List.getElem?_eq_none (by rw [List.toList_toArray, instr17_length]; omega)]
end
end Go.Proofs.Qxb6613741a
