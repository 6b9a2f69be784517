/-
  zzBytes_FnFiguresCountLengthsAlone: it answers a bool; it only computes.
-/
import Derived.Test.Qxb6613741aProg
import Derived.WalkKit
import Derived.WalkSpells
namespace Go.Proofs.Qxb6613741a
open Go.RowKit

/-- How this zzBytes ends. -/
def BoolPostB (w : World) (e : Ending) (w' : World) : Prop := ∃ b, e = .returned (.bool b) ∧ w' = w

set_option maxRecDepth 100000 in
set_option maxHeartbeats 2000000 in
theorem bytesB_any (a0 : Option Addr) (p c0 : Nat) (a1 : Option Addr) (i c1 : Nat) (a2 : Option Addr) (h c2 : Nat) (a3 : Option Addr) (p' c3 : Nat) (a4 : Option Addr) (i' c4 : Nat) (a5 : Option Addr) (h' c5 : Nat) (w : World)
    (hp : p ≤ maxLen) (hi : i ≤ maxLen) (hh : h ≤ maxLen) (hp' : p' ≤ maxLen) (hi' : i' ≤ maxLen) (hh' : h' ≤ maxLen) :
    Calls Try.prog 11 #[.slice a0 p c0, .slice a1 i c1, .slice a2 h c2, .slice a3 p' c3, .slice a4 i' c4, .slice a5 h' c5] w (BoolPostB w) := by
  unfold maxLen at *
  by_cases h0 : 1048576 < p
  · go_enter Try.func11, Try.ntmps11
    go_wp2
    go_ret
    exact ⟨_, rfl, rfl⟩
  by_cases h1 : 1048576 < i
  · go_enter Try.func11, Try.ntmps11
    go_wp2
    go_ret
    exact ⟨_, rfl, rfl⟩
  by_cases h2 : 1048576 < p + i
  · go_enter Try.func11, Try.ntmps11
    go_wp2
    go_ret
    exact ⟨_, rfl, rfl⟩
  go_enter Try.func11, Try.ntmps11
  go_wp2
  go_loop [13, 14] (fun z j => ∃ (k : Nat) (m : Int), k ≤ i ∧ j = .int .i64 k ∧ z = .int .i64 m ∧ 0 ≤ m ∧ m ≤ 1048576) (fun _ j => i - (intOf j).toNat)
  case atStart => exact ⟨0, (p : Int) + i, Nat.zero_le _, rfl, by go_num, by omega, by omega⟩
  case round =>
    obtain ⟨k, m, hk, rfl, rfl, hm0, hm⟩ := hrel
    by_cases hlt : k < i
    · by_cases h3 : 1048576 < m + 16
      · go_wp2
        go_ret
        exact ⟨_, rfl, rfl⟩
      go_wp2
      go_round
      case rel => exact ⟨k + 1, m + 16, by omega, by go_num, by go_num, by omega, by omega⟩
      case measure => simp [intOf]; omega
    · by_cases h3 : 1048576 < h
      · go_wp2
        go_ret
        exact ⟨_, rfl, rfl⟩
      by_cases h4 : 1048576 < m + h
      · go_wp2
        go_ret
        exact ⟨_, rfl, rfl⟩
      by_cases h5 : 1048576 < p'
      · go_wp2
        go_ret
        exact ⟨_, rfl, rfl⟩
      by_cases h6 : 1048576 < m + h + p'
      · go_wp2
        go_ret
        exact ⟨_, rfl, rfl⟩
      by_cases h7 : 1048576 < i'
      · go_wp2
        go_ret
        exact ⟨_, rfl, rfl⟩
      by_cases h8 : 1048576 < m + h + p' + i'
      · go_wp2
        go_ret
        exact ⟨_, rfl, rfl⟩
      go_wp2
      go_loop [13, 15] (fun z j => ∃ (k : Nat) (m : Int), k ≤ i' ∧ j = .int .i64 k ∧ z = .int .i64 m ∧ 0 ≤ m ∧ m ≤ 1048576) (fun _ j => i' - (intOf j).toNat)
      case atStart => exact ⟨0, m + h + p' + i', Nat.zero_le _, rfl, by go_num, by omega, by omega⟩
      case round =>
        obtain ⟨k2, m2, hk2, rfl, rfl, hm20, hm2⟩ := hrel
        by_cases hlt2 : k2 < i'
        · by_cases h9 : 1048576 < m2 + 16
          · go_wp2
            go_ret
            exact ⟨_, rfl, rfl⟩
          go_wp2
          go_round
          case rel => exact ⟨k2 + 1, m2 + 16, by omega, by go_num, by go_num, by omega, by omega⟩
          case measure => simp [intOf]; omega
        · by_cases h9 : 1048576 < h'
          · go_wp2
            go_ret
            exact ⟨_, rfl, rfl⟩
          go_wp2
          all_goals
            go_ret
            exact ⟨_, rfl, rfl⟩
end Go.Proofs.Qxb6613741a
