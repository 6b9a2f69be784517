/-
  zzBytes_FnCycleReportsAnError: it only reads; where it says true every name has at most 1<<20 bytes.
-/
import Derived.Test.Qxb6613227aFmtProg
import Derived.WalkKit
import Derived.WalkSpells
namespace Go.Proofs.Qxb6613227aFmt
open Go.RowKit

/-- The slice of n strings at ad holds the texts Sx 0, Sx 1, .. -/
def Names (w : World) (ad : Option Addr) (n : Nat) (Sx : Nat → ByteArray) : Prop :=
  0 < n → ∃ b off, ad = some ⟨b, off, none⟩ ∧ ∀ j, j < n → w.cell? ⟨b, off + j, none⟩ = some (.string (Sx j))

/-- How zzBytes ends. -/
def BytesPost (n : Nat) (Sx : Nat → ByteArray) (w : World) (e : Ending) (w' : World) : Prop :=
  ∃ r, e = .returned (.bool r) ∧ w' = w ∧ (r = true → ∀ j, j < n → (Sx j).size ≤ 1048576)

set_option maxHeartbeats 1000000 in
theorem bytes_any (ad : Option Addr) (n c : Nat) (bd : Option Addr) (m d : Nat) (Sx : Nat → ByteArray) (w : World) (hN : Names w ad n Sx) (hn : n ≤ maxLen) (hm : m ≤ maxLen) (hS : ∀ j, j < n → (Sx j).size ≤ maxLen) :
    Calls Tryf.prog 6 #[.slice ad n c, .slice bd m d] w (BytesPost n Sx w) := by
  have HN : Hid (Names w ad n Sx) := hN
  have HS : Hid (∀ j, j < n → (Sx j).size ≤ maxLen) := hS
  clear hN hS
  unfold maxLen at *
  by_cases h0 : 1048576 < n
  · go_enter Tryf.func6, Tryf.ntmps6
    go_wp2
    go_ret
    exact ⟨false, rfl, rfl, by simp⟩
  go_enter Tryf.func6, Tryf.ntmps6
  go_wp2
  go_loop [5, 6] (fun t i => ∃ (k z : Nat), k ≤ n ∧ i = .int .i64 k ∧ t = .int .i64 z ∧ z ≤ 1048576 ∧ Hid (∀ j, j < k → (Sx j).size ≤ 1048576)) (fun _ i => n - (intOf i).toNat)
  case atStart => exact ⟨0, n, Nat.zero_le _, rfl, rfl, by omega, fun j hj => by omega⟩
  case round =>
    obtain ⟨k, z, hk, rfl, rfl, hz, HA⟩ := hrel
    by_cases hlt : k < n
    · obtain ⟨b, off, rfl, hc⟩ := HN.out (by omega)
      have hck := hc k hlt
      have hsk := HS.out k hlt
      clear hc
      by_cases h1 : 1048576 < (Sx k).size
      · go_wp2
        go_ret
        exact ⟨false, rfl, rfl, by simp⟩
      by_cases h2 : 1048576 < z + (Sx k).size
      · go_wp2
        go_ret
        exact ⟨false, rfl, rfl, by simp⟩
      go_wp2
      go_round
      case rel =>
        refine ⟨k + 1, z + (Sx k).size, by omega, by go_num, by go_num, by omega, ?_⟩
        intro j hj
        by_cases e : j = k
        · subst e; omega
        · exact HA.out j (by omega)
      case measure => simp [intOf]; omega
    · have hkn : k = n := by omega
      go_wp2
      all_goals
        go_ret
        refine ⟨_, rfl, rfl, fun _ j hj => HA.out j (by omega)⟩
end Go.Proofs.Qxb6613227aFmt
