/-
  zzBytes_FnFiguresInsertOneInstruction: it answers a bool; nothing old has turned.
-/
import Derived.Test.Qxb6613741aProg
import Derived.Test.Qxb6613741aCells
import Derived.WalkSpells
namespace Go.Proofs.Qxb6613741a
open Go.RowKit
attribute [local go_sem] instr17_length

/-- How a zzBytes ends. -/
def BoolPost (w : World) (e : Ending) (w' : World) : Prop := ∃ b, e = .returned (.bool b) ∧ Below w.heap.size w w'

set_option maxRecDepth 100000 in
set_option maxHeartbeats 1000000 in
theorem bytesA_any (a0 : Option Addr) (p c0 : Nat) (a1 : Option Addr) (i c1 : Nat) (a2 : Option Addr) (h c2 : Nat) (t : Int) (x : Nat → Int) (w : World) (hp : p ≤ maxLen) (hi : i ≤ maxLen) (hh : h ≤ maxLen) :
    Calls Try.prog 5 #[.slice a0 p c0, .slice a1 i c1, .slice a2 h c2, .int .i64 t, .agg (instr17 x).toArray] w (BoolPost w) := by
  unfold maxLen at *
  have hb : Below w.heap.size w (w.alloc (.cells (instr17 x).toArray 27)) := (Below.refl _ _).alloc (Nat.le_refl _) _
  by_cases h0 : 1048576 < p
  · go_enter Try.func5, Try.ntmps5
    go_wp2
    go_ret
    exact ⟨_, rfl, hb⟩
  by_cases h1 : 1048576 < i
  · go_enter Try.func5, Try.ntmps5
    go_wp2
    go_ret
    exact ⟨_, rfl, hb⟩
  by_cases h2 : 1048576 < p + i
  · go_enter Try.func5, Try.ntmps5
    go_wp2
    go_ret
    exact ⟨_, rfl, hb⟩
  go_enter Try.func5, Try.ntmps5
  go_wp2
  go_loop [11, 12] (fun z j => ∃ (k : Nat) (m : Int), k ≤ i ∧ j = .int .i64 k ∧ z = .int .i64 m ∧ 0 ≤ m ∧ m ≤ 1048576) (fun _ j => i - (intOf j).toNat)
  case atStart => exact ⟨0, (p : Int) + i, Nat.zero_le _, rfl, by go_num, by omega, by omega⟩
  case round =>
    obtain ⟨k, m, hk, rfl, rfl, hm0, hm⟩ := hrel
    by_cases hlt : k < i
    · by_cases h3 : 1048576 < m + 16
      · go_wp2
        go_ret
        exact ⟨_, rfl, hb⟩
      go_wp2
      go_round
      case rel => exact ⟨k + 1, m + 16, by omega, by go_num, by go_num, by omega, by omega⟩
      case measure => simp [intOf]; omega
    · by_cases h3 : 1048576 < h
      · go_wp2
        go_ret
        exact ⟨_, rfl, hb⟩
      go_wp2
      all_goals
        go_ret
        exact ⟨_, rfl, hb⟩
end Go.Proofs.Qxb6613741a
