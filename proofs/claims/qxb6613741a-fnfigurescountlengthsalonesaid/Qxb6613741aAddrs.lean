/-
  zzAddrs: a copy of a path, in new memory.
-/
import Derived.Test.Qxb6613741aProg
import Derived.Test.Qxb6613741aCells
import Derived.WalkSpells
import Derived.Deep.RegionHeld3
namespace Go.Proofs.Qxb6613741a
open Go.RowKit

def zero3 : Value := .agg #[.int .u8 0, .int .u8 0, .int .u8 0]
theorem zero3_one : ∀ u ∈ zero3.cells.toList, u.oneCell' = true := by
  intro u hu
  have : u = .int .u8 0 := by simpa [zero3, Value.cells] using hu
  rw [this]; rfl
theorem zero3_pos : 0 < zero3.cells.size := by decide
theorem zero50 : (Try.prog.info? 50).map (fun i => (i.zero, i.size, i.bytes)) = some (some zero3, 3, 3) := by kernel_rfl

/-- The slice of n addresses at ad: cell j of number k holds X k j. -/
def Src3 (w : World) (ad : Option Addr) (n : Nat) (X : Nat → Nat → Int) : Prop :=
  (ad = none → n = 0) ∧ (0 < n → ∃ b off, ad = some ⟨b, off, none⟩ ∧ ∀ k, k < n → ∀ j, j < 3 → w.cell? ⟨b, off + k * 3 + j, none⟩ = some (.int .u8 (X k j)))

/-- How zzAddrs and zzClone end: a slice of the same length; nothing old has turned. -/
def SlicePost (n : Nat) (w : World) (e : Ending) (w' : World) : Prop := ∃ ad c, e = .returned (.slice ad n c) ∧ Below w.heap.size w w'

/-- Three cells of a good block stored to. -/
abbrev put3 (w : World) (g o : Nat) (a b c : Int) : World := (((w.setCell ⟨g, o, none⟩ (.int .u8 a)).setCell ⟨g, o + 1, none⟩ (.int .u8 b)).setCell ⟨g, o + 2, none⟩ (.int .u8 c)).drew
theorem good3 {w : World} {g N : Nat} (h : Good w g N) (o : Nat) (ho : o + 3 ≤ N) (a b c : Int) : Good (put3 w g o a b c) g N :=
  (show Good (w.setCells g o [.int .u8 a, .int .u8 b, .int .u8 c]) g N from h.setCells o _ ho (by
    intro v hv
    simp only [List.mem_cons, List.not_mem_nil, or_false] at hv
    rcases hv with rfl | rfl | rfl <;> rfl))
theorem below3 {w wr : World} (h : Below w.heap.size w wr) (o : Nat) (a b c : Int) : Below w.heap.size w (put3 wr w.heap.size o a b c) :=
  (((h.setCell (Nat.le_refl _) _).setCell (Nat.le_refl _) _).setCell (Nat.le_refl _) _).drew
theorem size3 {w : World} {g : Nat} (h : g < w.heap.size) (o : Nat) (a b c : Int) : g < (put3 w g o a b c).heap.size :=
  Nat.lt_of_lt_of_le h (((((Below.refl 0 w).setCell (Nat.zero_le _) _).setCell (Nat.zero_le _) _).setCell (Nat.zero_le _) _).drew.size)

set_option maxRecDepth 100000 in
set_option maxHeartbeats 1000000 in
theorem addrs_any (ad : Option Addr) (n c : Nat) (X : Nat → Nat → Int) (w : World) (hsrc : Src3 w ad n X) (hn : n ≤ 1048576) :
    Calls Try.prog 8 #[.slice ad n c] w (SlicePost n w) := by
  obtain ⟨hnil, hsome⟩ := hsrc
  cases ad with
  | none =>
    have hn0 : n = 0 := hnil rfl
    subst hn0
    have heq := fun W => Lib.run_eql_slice_nil (P := Try.prog) W 22 49 none 0 c 0 0 Try.underlying22
    clear hnil hsome
    go_enter Try.func8, Try.ntmps8
    go_wp2
    go_ret
    exact ⟨none, 0, rfl, Below.refl _ _⟩
  | some a =>
    have heq := fun W => Lib.run_eql_slice_nil (P := Try.prog) W 22 49 (some a) n c 0 0 Try.underlying22
    have HS : Hid (0 < n → ∃ b off, some a = some ⟨b, off, none⟩ ∧ ∀ k, k < n → ∀ j, j < 3 → w.cell? ⟨b, off + k * 3 + j, none⟩ = some (.int .u8 (X k j))) := hsome
    obtain ⟨i0, hi, hz0, hz1, hz2⟩ := info_parts zero50
    have HI : Hid (Try.prog.info? 50 = some i0 ∧ i0.zero = some zero3 ∧ i0.size = 3 ∧ i0.bytes = 3) := ⟨hi, hz0, hz1, hz2⟩
    clear hnil hsome hi hz0 hz1 hz2
    go_enter Try.func8, Try.ntmps8
    go_wp2_with (first
      | (at_make; refine wpList_make_good _ rfl (.tmp 8) (.tmp 8) 35 rfl 50 i0 zero3 3 Try.underlying35 HI.out.1 HI.out.2.1 HI.out.2.2.1 .i64 .i64 _ _ n rfl rfl (by omega) (by omega) ?b2 ?b3 zero3_one zero3_pos ?_))
    case b2 => rw [HI.out.2.2.2]; omega
    case b3 => unfold maxLen; omega
    intro w1 HG1 hb1 hz1
    go_wp2_with fail
    go_loopw [4] (fun i wr => ∃ k : Nat, k ≤ n ∧ i = .int .i64 k ∧ Hid (Good wr w.heap.size (n * 3)) ∧ Below w.heap.size w wr ∧ w.heap.size < wr.heap.size) (fun i _ => n - (intOf i).toNat)
    case atStart => exact ⟨0, Nat.zero_le _, rfl, HG1, hb1, hz1⟩
    case round =>
      clear HG1 hb1 hz1
      obtain ⟨k, hk, rfl, HG, hnx, hzr⟩ := hrel
      by_cases hlt : k < n
      · obtain ⟨b, off, hab, hc⟩ := HS.out (by omega)
        cases hab
        have hbB : b < w.heap.size := World.block_lt_of_cell? _ _ (hc k hlt 0 (by omega))
        have c0 : wr.cell? ⟨b, off + k * 3, none⟩ = some (.int .u8 (X k 0)) := (hnx.cell (by exact hbB)).trans (hc k hlt 0 (by omega))
        have c1 : wr.cell? ⟨b, off + k * 3 + 1, none⟩ = some (.int .u8 (X k 1)) := (hnx.cell (by exact hbB)).trans (hc k hlt 1 (by omega))
        have c2 : wr.cell? ⟨b, off + k * 3 + 2, none⟩ = some (.int .u8 (X k 2)) := (hnx.cell (by exact hbB)).trans (hc k hlt 2 (by omega))
        clear hc
        obtain ⟨v0, d0, _, f0⟩ := HG.out (k * 3) (by omega)
        obtain ⟨v1, d1, _, f1⟩ := HG.out (k * 3 + 1) (by omega)
        obtain ⟨v2, d2, _, f2⟩ := HG.out (k * 3 + 2) (by omega)
        have hk0 : (0 : Int) ≤ (k : Int) := Int.natCast_nonneg _
        have hkn : (k : Int) < (n : Int) := by omega
        have hne : w.heap.size ≠ b := by omega
        have hne' : b ≠ w.heap.size := by omega
        go_wp2_with fail
        go_region_held3 (fun w' => w'.cell? ⟨b, off + k * 3, none⟩ = some (.int .u8 (X k 0)) ∧ w'.cell? ⟨b, off + k * 3 + 1, none⟩ = some (.int .u8 (X k 1)) ∧ w'.cell? ⟨b, off + k * 3 + 2, none⟩ = some (.int .u8 (X k 2))) (go_keep) (fail)
        clear c0 c1 c2 d0 d1 d2 f0 f1 f2
        go_wp2
        go_roundw
        case rel => exact ⟨k + 1, by omega, by go_num, good3 HG.out (k * 3) (by omega) _ _ _, below3 hnx (k * 3) _ _ _, size3 hzr (k * 3) _ _ _⟩
        case measure => simp [intOf]; omega
      · go_wp2
        go_ret
        exact ⟨some ⟨w.heap.size, 0, none⟩, n, rfl, hnx⟩
end Go.Proofs.Qxb6613741a
