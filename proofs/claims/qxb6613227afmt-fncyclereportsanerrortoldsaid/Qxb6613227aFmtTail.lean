/-
  slices.Reverse and strings.Join at the parts that String has gathered.
-/
import Derived.Test.Qxb6613227aFmtShelf
import Derived.Test.Qxb6613227aFmtParts
import Derived.WalkSmall
import Derived.Lib.SlBuf
namespace Go.Proofs.Qxb6613227aFmt
open Go.RowKit

/-- The slice value v holds the texts ys, in w. -/
def StrsAt (w : World) (v : Value) (ys : List ByteArray) : Prop :=
  (v = .slice none 0 0 ∧ ys = []) ∨
  ∃ g cap, v = .slice (some ⟨g, 0, none⟩) ys.length cap ∧ ys.length ≤ cap ∧ g < w.heap.size ∧ ∀ (j : Nat) x, ys[j]? = some x → w.cell? ⟨g, 0 + j, none⟩ = some (.string x)

theorem strsOf_list (xs : List ByteArray) : Lib.strsOf (fun i => xs.getD i ByteArray.empty) xs.length = xs.map (·.data.toList) := by
  apply List.ext_getElem?
  intro i
  by_cases h : i < xs.length
  · simp [Lib.strsOf, h]
  · simp [Lib.strsOf, h]

theorem rev_vals (xs : List ByteArray) : (xs.map (fun s : ByteArray => s.data.toList)).reverse.map encStr = xs.reverse.map Value.string := by
  rw [← List.map_reverse, List.map_map]
  rfl

theorem reverse_own (B : Nat) (v : Value) (xs : List ByteArray) (w : World) (hown : w.ownsRow B 9 1 v xs.length (xs.map Value.string)) (hn : xs.length ≤ 8192) :
    Calls Tryf.prog 30 #[v] w fun e w' => e = .returned (.tuple #[]) ∧ StrsAt w' v xs.reverse ∧ Below B w w' := by
  obtain ⟨_, h⟩ := id hown
  rcases h with ⟨hv, h0⟩ | ⟨g, cap, cur, hv, hB, hh, hc, _, _, _⟩
  · have hx : xs = [] := List.eq_nil_of_length_eq_zero h0
    subst hx
    subst hv
    refine (Tryf.slices_Reverse_string_empty none 0 w).mono ?_
    rintro e w' ⟨rfl, rfl⟩
    exact ⟨rfl, .inl ⟨rfl, rfl⟩, Below.refl _ _⟩
  · subst hv
    have hcell : ∀ i, i < xs.length → w.cell? ⟨g, 0 + i, none⟩ = some (.string (xs.getD i ByteArray.empty)) := by
      intro i hi
      rw [Nat.zero_add, hown.cellAt i (by omega)]
      simp [hi]
    refine (Tryf.slices_Reverse_string_cells g 0 xs.length cap (fun i => xs.getD i ByteArray.empty) w (by omega) hcell (fun j _ => by rw [Nat.zero_add]; exact hown.frozenAt j)).mono ?_
    rintro e w' ⟨rfl, q, rfl⟩
    rw [strsOf_list, rev_vals]
    have hg : g < w.heap.size := by
      rcases Nat.lt_or_ge g w.heap.size with h | h
      · exact h
      · rw [Array.getElem?_eq_none h] at hh; cases hh
    have hb : Below B w ((w.drewN q).setCells g 0 (xs.reverse.map Value.string)) := Lib.below_setCells g hB _ 0 (below_drewN (Below.refl _ _) q)
    refine ⟨rfl, .inr ⟨g, cap, by simp, by simpa using hc, Nat.lt_of_lt_of_le hg hb.size, ?_⟩, hb⟩
    intro j x hj
    have hjl : j < (xs.reverse.map Value.string).length := by
      have := (List.getElem?_eq_some_iff.1 hj).1
      simpa using this
    rw [World.cell?_setCells_in g _ 0 (w.drewN q) (fun t ht => by
      have := hcell t (by simpa using ht)
      show ((w.cell? ⟨g, 0 + t, none⟩)).isSome = true
      rw [this]; rfl) j hjl]
    obtain ⟨h1, h2⟩ := List.getElem?_eq_some_iff.1 hj
    simp only [List.getElem_map, h2]

theorem join_strs (v : Value) (ys : List ByteArray) (w : World) (h : StrsAt w v ys) (hn : ys.length ≤ 8192) (ht : total ys ≤ 1100000) :
    Calls Tryf.prog 31 #[v, .string ⟨#[]⟩] w fun e w' => ∃ s : ByteArray, e = .returned (.string s) ∧ Below w.heap.size w w' := by
  rcases h with ⟨rfl, _⟩ | ⟨g, cap, rfl, hcap, hg, hc⟩
  · refine (Tryf.strings_Join_none none 0 ⟨#[]⟩ w).mono ?_
    rintro e w' ⟨rfl, rfl⟩
    exact ⟨_, rfl, Below.refl _ _⟩
  · refine (Tryf.strings_Join g 0 cap ys ⟨#[]⟩ w hc hg (by omega) hcap (by
      show (Lib.join (ys.map (·.data.toList)) []).length ≤ _
      rw [join_nil_length, lens_total]; omega)).mono ?_
    rintro e w' ⟨rfl, hb⟩
    exact ⟨_, rfl, hb⟩
end Go.Proofs.Qxb6613227aFmt
