/-
  zzInstrs: a copy of a list of instructions, in new memory.
-/
import Derived.Test.Qxb6613741aProg
import Derived.Test.Qxb6613741aCells
import Derived.WalkSpells
import Derived.Deep.RegionHeld3
namespace Go.Proofs.Qxb6613741a
open Go.RowKit

theorem info34 : (Try.prog.info? 34).map (fun i => (i.size, i.bytes)) = some (17, 17) := by kernel_rfl
theorem size34 : (Try.prog.info? 34).map (·.size) = some 17 := by kernel_rfl
theorem size25 : (Try.prog.info? 25).map (·.size) = some 16 := by kernel_rfl
theorem fold34 (x : Nat → Int) : List.foldl (fun (cs : Array Value) (p : Value × Nat) => cs.setIfInBounds (1 + p.snd) p.fst)
    #[.int .u8 (x 0), .int .u8 0, .int .u8 0, .int .u8 0, .int .u8 0, .int .u8 0, .int .u8 0, .int .u8 0, .int .u8 0, .int .u8 0, .int .u8 0, .int .u8 0, .int .u8 0, .int .u8 0, .int .u8 0, .int .u8 0, .int .u8 0]
    (row16 x).zipIdx = (instr17 x).toArray := by kernel_rfl
attribute [local go_sem] fold34 row16_length
theorem cells34 (x : Nat → Int) (g o : Nat) (W : World) (h : W.there g o 17) : (storeCells ⟨g, o, none⟩ (instr17 x)).run Try.prog W = .ok () (W.setCells g o (instr17 x)) := by
  have := run_storeCells_cells (P := Try.prog) g o (instr17 x) 0 W (fun j hj => by simpa using (h j hj).1) (fun j hj => by simpa using (h j hj).2) (instr17_one x)
  simpa using this
attribute [local go_sem] cells34 instr17_length
def zero17 : Value := .agg (instr17 fun _ => 0).toArray
theorem zero17_one : ∀ u ∈ zero17.cells.toList, u.oneCell' = true := instr17_one (fun _ => 0)
theorem zero17_pos : 0 < zero17.cells.size := by decide
theorem zero34 : (Try.prog.info? 34).map (fun i => (i.zero, i.size, i.bytes)) = some (some zero17, 17, 17) := by kernel_rfl

/-- The slice of n instructions at ad: cell j of number k holds X k j. -/
def Src17 (w : World) (ad : Option Addr) (n : Nat) (X : Nat → Nat → Int) : Prop :=
  (ad = none → n = 0) ∧ (0 < n → ∃ b off, ad = some ⟨b, off, none⟩ ∧ ∀ k, k < n → ∀ j, j < 17 → w.cell? ⟨b, off + k * 17 + j, none⟩ = some (.int .u8 (X k j)))

theorem keep17 {wr : World} {b o g t : Nat} {x : Nat → Int} (hb : b < g) (c0 : wr.cell? ⟨b, o, none⟩ = some (.int .u8 (x 0))) (r1 : wr.rangeAt b (o + 1) (row16 x)) (th : wr.there g t 17) :
    (wr.drew.setCells g t (instr17 x)).cell? ⟨b, o, none⟩ = some (.int .u8 (x 0)) ∧ (wr.drew.setCells g t (instr17 x)).rangeAt b (o + 1) (row16 x) ∧ (wr.drew.setCells g t (instr17 x)).there g t 17 := by
  refine ⟨?_, World.rangeAt_setCells_apart (w := wr.drew) (by exact r1) _ _ _ (Or.inl (by omega)), World.there_setCells (w := wr.drew) (by exact th) _ _ _⟩
  rw [World.cell?_setCells_out g _ t wr.drew ⟨b, o, none⟩ (fun h _ => by have : b = g := h; omega)]
  exact c0

/-- How zzInstrs ends. -/
def InstrsPost (n : Nat) (w : World) (e : Ending) (w' : World) : Prop :=
  ∃ ad c, e = .returned (.slice ad n c) ∧ Below w.heap.size w w' ∧ (0 < n → ∃ g, ad = some ⟨g, 0, none⟩ ∧ w.heap.size ≤ g ∧ g < w'.heap.size ∧ Good w' g (n * 17))

set_option maxRecDepth 100000 in
set_option maxHeartbeats 600000 in
theorem instrs_any (ad : Option Addr) (n c : Nat) (X : Nat → Nat → Int) (w : World) (hsrc : Src17 w ad n X) (hn : n ≤ 1048576) :
    Calls Try.prog 7 #[.slice ad n c] w (InstrsPost n w) := by
  obtain ⟨hnil, hsome⟩ := hsrc
  cases ad with
  | none =>
    have hn0 : n = 0 := hnil rfl
    subst hn0
    have heq := fun W => Lib.run_eql_slice_nil (P := Try.prog) W 23 27 none 0 c 0 0 Try.underlying23
    clear hnil hsome
    go_enter Try.func7, Try.ntmps7
    go_wp2
    go_ret
    exact ⟨none, 0, rfl, Below.refl _ _, fun h => by omega⟩
  | some a =>
    have heq := fun W => Lib.run_eql_slice_nil (P := Try.prog) W 23 27 (some a) n c 0 0 Try.underlying23
    have HS : Hid (0 < n → ∃ b off, some a = some ⟨b, off, none⟩ ∧ ∀ k, k < n → ∀ j, j < 17 → w.cell? ⟨b, off + k * 17 + j, none⟩ = some (.int .u8 (X k j))) := hsome
    obtain ⟨i0, hi, hz0, hz1, hz2⟩ := info_parts zero34
    have HI : Hid (Try.prog.info? 34 = some i0 ∧ i0.zero = some zero17 ∧ i0.size = 17 ∧ i0.bytes = 17) := ⟨hi, hz0, hz1, hz2⟩
    clear hnil hsome hi hz0 hz1 hz2
    go_enter Try.func7, Try.ntmps7
    go_wp2_with (first
      | (at_make; refine wpList_make_good _ rfl (.tmp 8) (.tmp 8) 30 rfl 34 i0 zero17 17 Try.underlying30 HI.out.1 HI.out.2.1 HI.out.2.2.1 .i64 .i64 _ _ n rfl rfl (by omega) (by omega) ?b2 ?b3 zero17_one zero17_pos ?_))
    case b2 => rw [HI.out.2.2.2]; omega
    case b3 => unfold maxLen; omega
    intro w1 HG1 hb1 hz1
    go_wp2_with fail
    go_loopw [4] (fun i wr => ∃ k : Nat, k ≤ n ∧ i = .int .i64 k ∧ Hid (Good wr w.heap.size (n * 17)) ∧ Below w.heap.size w wr ∧ w.heap.size < wr.heap.size) (fun i _ => n - (intOf i).toNat)
    case atStart => exact ⟨0, Nat.zero_le _, rfl, HG1, hb1, hz1⟩
    case round =>
      clear HG1 hb1 hz1
      obtain ⟨k, hk, rfl, HG, hnx, hzr⟩ := hrel
      by_cases hlt : k < n
      · obtain ⟨b, off, hab, hc⟩ := HS.out (by omega)
        cases hab
        have hbB : b < w.heap.size := World.block_lt_of_cell? _ _ (hc k hlt 0 (by omega))
        have c0 : wr.cell? ⟨b, off + k * 17, none⟩ = some (.int .u8 (X k 0)) := (hnx.cell (by exact hbB)).trans (hc k hlt 0 (by omega))
        have r1 : wr.rangeAt b (off + k * 17 + 1) (row16 (X k)) := by
          intro j v hj
          obtain ⟨h16, rfl⟩ := row16_at _ j v hj
          rw [show off + k * 17 + 1 + j = off + k * 17 + (1 + j) by omega]
          exact (hnx.cell (by exact hbB)).trans (hc k hlt (1 + j) (by omega))
        have th : wr.there w.heap.size (k * 17) 17 := HG.out.there (k * 17) 17 (by omega)
        clear hc
        have hk0 : (0 : Int) ≤ (k : Int) := Int.natCast_nonneg _
        have hkn : (k : Int) < (n : Int) := by omega
        have hu25 := Try.underlying25
        have hi25 : (Try.prog.info? 25).map (·.size) = some (row16 (X k)).length := size25
        have hi34 : (Try.prog.info? 34).map (·.size) = some (instr17 (X k)).length := size34
        have l16 := row16_length (X k)
        have l17 := instr17_length (X k)
        have o16 := row16_one (X k)
        have o17 := instr17_one (X k)
        go_wp2_with fail
        go_region_held3 (fun w' => w'.cell? ⟨b, off + k * 17, none⟩ = some (.int .u8 (X k 0)) ∧ w'.rangeAt b (off + k * 17 + 1) (row16 (X k)) ∧ w'.there w.heap.size (k * 17) 17) (first | (with_reducible exact keep17 hbB c0 r1 th) | (with_reducible exact ⟨c0, r1, th⟩) | exact ⟨c0, r1, th⟩) (fail)
        go_wp2
        go_roundw
        case rel => exact ⟨k + 1, by omega, by go_num, Good.setCells (w := wr.drew) (by exact HG.out) (k * 17) _ (by rw [instr17_length]; omega) (instr17_one _), below_cells (Nat.le_refl _) _ _ _ hnx.drew, Nat.lt_of_lt_of_le hzr (size_cells wr.drew _ _ _)⟩
        case measure => simp [intOf]; omega
      · go_wp2
        go_ret
        exact ⟨some ⟨w.heap.size, 0, none⟩, n, rfl, hnx, fun _ => ⟨w.heap.size, rfl, Nat.le_refl _, hzr, HG.out⟩⟩
end Go.Proofs.Qxb6613741a
