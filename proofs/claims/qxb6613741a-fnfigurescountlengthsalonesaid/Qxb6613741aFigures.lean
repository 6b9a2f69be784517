/-
  (*Journey).Figures: it counts lengths alone.
-/
import Derived.Test.Qxb6613741aSmall
import Derived.Deep.RegionHeld3
import Derived.Deep.MidRow
import Derived.Laws.ResultCell
namespace Go.Proofs.Qxb6613741a
open Go.RowKit

theorem wrap_pred (p : Nat) (hp : p ≤ 1048576) : IntKind.i64.wrap ((p : Int) - 1) = (p : Int) - 1 := by
  simp [IntKind.wrap, IntKind.signed, IntKind.bits]
  omega

set_option maxRecDepth 100000 in
set_option maxHeartbeats 2000000 in
theorem figures_any (b : Nat) (a0 : Option Addr) (p c0 : Nat) (a1 : Option Addr) (i c1 : Nat) (a2 : Option Addr) (h c2 : Nat) (w : World)
    (k0 : w.cell? ⟨b, 0, none⟩ = some (.slice a0 p c0)) (k1 : w.cell? ⟨b, 1, none⟩ = some (.slice a1 i c1)) (k2 : w.cell? ⟨b, 2, none⟩ = some (.slice a2 h c2))
    (hp : p ≤ 1048576) (hi : i ≤ 1048577) :
    Calls Try.prog 10 #[.pointer (some ⟨b, 0, none⟩)] w fun e w' =>
      e = .returned (.agg #[.int .i64 ((p : Int) - 1), .int .i64 i, .int .i64 h, .int .i64 (hlOf (segsOf i)), .int .i64 (chOf (segsOf i))]) ∧ Below w.heap.size w w' := by
  have hb : b < w.heap.size := World.block_lt_of_cell? _ _ k0
  have hs := segsOf_le i
  go_enter Try.func10, Try.ntmps10
  go_wp2_with fail
  refine (segments_any a1 i c1 _ hi).mono ?_
  rintro e w1 ⟨rfl, rfl⟩
  go_wp2_with fail
  have n0 := World.new_ne w ⟨b, 0, none⟩ k0
  have n1 := World.new_ne w ⟨b, 1, none⟩ k1
  have n2 := World.new_ne w ⟨b, 2, none⟩ k2
  go_region_held3 (fun w' => w'.cell? ⟨b, 0, none⟩ = some (.slice a0 p c0) ∧ w'.cell? ⟨b, 1, none⟩ = some (.slice a1 i c1) ∧ w'.cell? ⟨b, 2, none⟩ = some (.slice a2 h c2)) (go_keep)
    (first | (go_at_call 13; refine (headerLen_any (segsOf i) _ (by omega)).mono ?_; rintro e w' ⟨rfl, rfl⟩) | (go_at_call 14; refine (compressed_any (segsOf i) _ (by omega)).mono ?_; rintro e w' ⟨rfl, rfl⟩))
  go_wp2
  rw [wrap_pred p hp]
  exact bodyPost_ret (v := .agg #[.int .i64 ((p : Int) - 1), .int .i64 i, .int .i64 h, .int .i64 (hlOf (segsOf i)), .int .i64 (chOf (segsOf i))]) (by simp [results, Try.results10, go_sem]) rfl ⟨rfl, ((Below.refl _ _).alloc (Nat.le_refl _) _).drew⟩
end Go.Proofs.Qxb6613741a
