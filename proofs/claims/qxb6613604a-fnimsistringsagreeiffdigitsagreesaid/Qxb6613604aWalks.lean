import Derived.Test.Qxb6613604aRows
import Derived.WalkKit
namespace Go.Proofs.Qxb6613604a
open Go.RowKit

set_option maxHeartbeats 400000 in
theorem bytes_any (a0 a1 a2 a3 a4 a5 : ByteArray) (w0 : a0.size ≤ maxLen) (w1 : a1.size ≤ maxLen) (w2 : a2.size ≤ maxLen) (w3 : a3.size ≤ maxLen) (w4 : a4.size ≤ maxLen) (w5 : a5.size ≤ maxLen) (w : World) :
    Calls Try.prog 4 #[.string a0, .string a1, .string a2, .string a3, .string a4, .string a5] w fun e w' => ∃ b, e = .returned (.bool b) ∧ w' = w := by
  unfold maxLen at *
  go_enter Try.func4, Try.ntmps4
  go_wp2
  all_goals (go_ret; exact ⟨_, rfl, rfl⟩)

theorem str_any (a b c : ByteArray) (ha : a.size ≤ 65536) (hb : b.size ≤ 65536) (hc : c.size ≤ 65536) (w : World) :
    Calls Try.prog 5 #[.agg #[.string a, .string b, .string c]] w fun e w' => e = .returned (.string (⟨#[105, 109, 115, 105, 45]⟩ ++ a ++ b ++ c)) ∧ w' = w.alloc (.cells #[.string a, .string b, .string c] 24) := by
  go_enter Try.func5, Try.ntmps5
  go_wp2
  go_ret
  exact ⟨rfl, rfl⟩

/-- A common head falls away: two texts that begin alike are one exactly where their rests are one. -/
theorem joined_beq (p a0 a1 a2 a3 a4 a5 : ByteArray) :
    (((p ++ a0 ++ a1 ++ a2).toList == (p ++ a3 ++ a4 ++ a5).toList) == ((a0 ++ a1 ++ a2).toList == (a3 ++ a4 ++ a5).toList)) = true := by
  have e : (p ++ a0 ++ a1 ++ a2).toList = (p ++ a3 ++ a4 ++ a5).toList ↔ (a0 ++ a1 ++ a2).toList = (a3 ++ a4 ++ a5).toList := by
    simp only [ByteArray.toList_eq, ByteArray.data_append, Array.toList_append, List.append_assoc]
    constructor
    · intro h; exact List.append_cancel_left h
    · intro h; rw [h]
  rw [beq_iff_eq, Bool.eq_iff_iff, beq_iff_eq, beq_iff_eq]
  exact e

set_option maxHeartbeats 1000000 in
theorem main_any (a0 a1 a2 a3 a4 a5 : ByteArray) (w0 : a0.size ≤ maxLen) (w1 : a1.size ≤ maxLen) (w2 : a2.size ≤ maxLen) (w3 : a3.size ≤ maxLen) (w4 : a4.size ≤ maxLen) (w5 : a5.size ≤ maxLen) (w : World) :
    Calls Try.prog 3 #[.string a0, .string a1, .string a2, .string a3, .string a4, .string a5] w fun e w' => e = .returned (.bool true) ∧ Grown w w' := by
  have hB := bytes_any a0 a1 a2 a3 a4 a5 w0 w1 w2 w3 w4 w5 w
  unfold maxLen at *
  go_enter Try.func3, Try.ntmps3
  go_wp2_with fail
  refine hB.mono ?_
  rintro e w' ⟨b, rfl, rfl⟩
  clear hB
  cases b
  · go_wp2_with fail
    go_ret
    exact ⟨rfl, Grown.refl _⟩
  · by_cases h0 : 65536 < a0.size
    · go_wp2_with fail
      go_ret
      exact ⟨rfl, Grown.refl _⟩
    by_cases h1 : 65536 < a1.size
    · go_wp2_with fail
      go_ret
      exact ⟨rfl, Grown.refl _⟩
    by_cases h2 : 65536 < a2.size
    · go_wp2_with fail
      go_ret
      exact ⟨rfl, Grown.refl _⟩
    by_cases h3 : 65536 < a3.size
    · go_wp2_with fail
      go_ret
      exact ⟨rfl, Grown.refl _⟩
    by_cases h4 : 65536 < a4.size
    · go_wp2_with fail
      go_ret
      exact ⟨rfl, Grown.refl _⟩
    by_cases h5 : 65536 < a5.size
    · go_wp2_with fail
      go_ret
      exact ⟨rfl, Grown.refl _⟩
    go_wp2_with fail
    refine (str_any a0 a1 a2 (by omega) (by omega) (by omega) _).mono ?_
    rintro e w1 ⟨rfl, rfl⟩
    go_wp2_with fail
    refine (str_any a3 a4 a5 (by omega) (by omega) (by omega) _).mono ?_
    rintro e w1 ⟨rfl, rfl⟩
    go_wp2_with fail
    go_ret
    refine ⟨?_, by repeat (first | exact Grown.refl _ | apply Grown.drew | apply Grown.alloc)⟩
    rw [joined_beq]
    rfl
end Go.Proofs.Qxb6613604a
