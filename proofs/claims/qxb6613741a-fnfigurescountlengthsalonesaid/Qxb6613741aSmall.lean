/-
  The small functions: Segments, HeaderLen, CompressedHeaderLen, zzFigureBytes; and the plain numbers that they compute.
-/
import Derived.Test.Qxb6613741aProg
import Derived.WalkKit
import Derived.WalkSpells
import Derived.WalkLawsBesides
namespace Go.Proofs.Qxb6613741a
open Go.RowKit

/-- How many segments n instructions name. -/
def segsOf (n : Nat) : Nat := if n < 3 then 1 else n - 1
/-- The plain header's octets. -/
def hlOf (s : Nat) : Int := 8 + 16 * ((s : Int) + 1)
/-- The compressed header's octets. -/
def chOf (s : Nat) : Int := 8 + 16 * (((s : Int) + 5) / 6 + 1)

theorem segsOf_le (n : Nat) : 1 ≤ segsOf n ∧ segsOf n ≤ n + 1 := by unfold segsOf; split <;> omega

/-- One instruction more: what the two headers gain. -/
theorem fig_step (n : Nat) : hlOf (segsOf (n + 1)) = hlOf (segsOf n) + (if 2 ≤ n then 16 else 0) ∧ chOf (segsOf (n + 1)) = chOf (segsOf n) + (if 2 ≤ n ∧ ((n : Int) - 1) % 6 = 0 then 16 else 0) := by
  by_cases h0 : n < 2
  · have e1 : segsOf n = 1 := by unfold segsOf; rw [if_pos (by omega)]
    have e2 : segsOf (n + 1) = 1 := by unfold segsOf; rw [if_pos (by omega)]
    rw [e1, e2, if_neg (by omega), if_neg (by omega)]
    simp
  · have e1 : segsOf n = n - 1 := by unfold segsOf; split <;> omega
    have e2 : segsOf (n + 1) = n := by unfold segsOf; split <;> omega
    rw [e1, e2, if_pos (by omega)]
    unfold hlOf chOf
    refine ⟨by omega, ?_⟩
    by_cases h6 : ((n : Int) - 1) % 6 = 0
    · rw [if_pos ⟨by omega, h6⟩]; omega
    · rw [if_neg (by omega)]; omega

theorem fig_bounds (s : Nat) (h : s ≤ 1048578) : 0 ≤ hlOf s ∧ hlOf s ≤ 17000000 ∧ 0 ≤ chOf s ∧ chOf s ≤ 17000000 := by
  unfold hlOf chOf; omega

theorem ret_int {k : IntKind} {a b : Int} (h : a = b) : Ending.returned (.int k a) = .returned (.int k b) := by rw [h]

theorem segments_any (ad : Option Addr) (n c : Nat) (w : World) (hn : n ≤ 1048577) :
    Calls Try.prog 12 #[.slice ad n c] w fun e w' => e = .returned (.int .i64 (segsOf n)) ∧ w' = w := by
  go_enter Try.func12, Try.ntmps12
  go_wp2
  all_goals
    go_ret
    refine ⟨ret_int ?_, rfl⟩
    unfold segsOf
    split <;> omega

theorem headerLen_any (s : Nat) (w : World) (hs : s ≤ 1048578) :
    Calls Try.prog 13 #[.int .i64 s] w fun e w' => e = .returned (.int .i64 (hlOf s)) ∧ w' = w := by
  go_enter Try.func13, Try.ntmps13
  go_wp2
  go_ret
  exact ⟨rfl, rfl⟩

theorem compressed_any (s : Nat) (w : World) (hs : s ≤ 1048578) :
    Calls Try.prog 14 #[.int .i64 s] w fun e w' => e = .returned (.int .i64 (chOf s)) ∧ w' = w := by
  go_enter Try.func14, Try.ntmps14
  go_wp2
  go_ret
  refine ⟨ret_int ?_, rfl⟩
  unfold chOf
  rw [show (s : Int) + 6 - 1 = (s : Int) + 5 by omega]

/-- How zzFigureBytes ends: a number; where it is at most 1<<20 it bounds the three lengths. -/
def FigPost (p i h : Nat) (w : World) (e : Ending) (w' : World) : Prop :=
  ∃ z : Int, e = .returned (.int .i64 z) ∧ w' = w ∧ (z ≤ 1048576 → 3 * p + 17 * i + h ≤ 1048576)

theorem figBytes_any (a0 : Option Addr) (p c0 : Nat) (a1 : Option Addr) (i c1 : Nat) (a2 : Option Addr) (h c2 : Nat) (w : World) (hp : p ≤ maxLen) (hi : i ≤ maxLen) (hh : h ≤ maxLen) :
    Calls Try.prog 6 #[.slice a0 p c0, .slice a1 i c1, .slice a2 h c2] w (FigPost p i h w) := by
  unfold maxLen at *
  by_cases h0 : 1048576 < p
  · go_enter Try.func6, Try.ntmps6
    go_wp2
    go_ret
    exact ⟨_, rfl, rfl, fun h => by omega⟩
  by_cases h1 : 1048576 < i
  · go_enter Try.func6, Try.ntmps6
    go_wp2
    go_ret
    exact ⟨_, rfl, rfl, fun h => by omega⟩
  by_cases h2 : 1048576 < h
  · go_enter Try.func6, Try.ntmps6
    go_wp2
    go_ret
    exact ⟨_, rfl, rfl, fun h => by omega⟩
  go_enter Try.func6, Try.ntmps6
  go_wp2
  go_ret
  exact ⟨3 * (p : Int) + 17 * i + h, rfl, rfl, fun h => by omega⟩
end Go.Proofs.Qxb6613741a
