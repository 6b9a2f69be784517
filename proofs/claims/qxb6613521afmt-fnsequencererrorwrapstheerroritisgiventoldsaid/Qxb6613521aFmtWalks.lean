/-
  THE WALKS: errors.New, fmt.Errorf at this format, sequencerError, errors.Unwrap, ZZsequencerErrorOfFresh, the law: whatever function F stands for fmt's texts.
-/
import Derived.Test.Qxb6613521aFmtFmt
import Derived.WalkKit
import Derived.WalkSpells
import Derived.BigCall
import Derived.LaidEql
import Derived.RowKitTokens
import Derived.Deep.QuietTactic
import Derived.BigQuiet
import Derived.WalkSmall
namespace Go.Proofs.Qxb6613521aFmt
open Go.RowKit Go.Extern.Stop Go.Stop Go.Extern

theorem bytes_any (s : ByteArray) (hs : s.size ≤ maxLen) (w : World) :
    Calls Tryf.prog 13 #[.string s] w fun e w' => ∃ b, e = .returned (.bool b) ∧ w' = w := by
  unfold maxLen at *
  go_enter Tryf.func13, Tryf.ntmps13
  go_wp2
  all_goals (go_ret; exact ⟨_, rfl, rfl⟩)

/-- errors.New: a new block with the text. -/
theorem new_any (t : ByteArray) (w : World) :
    Calls Tryf.prog 21 #[.string t] w fun e w' => e = .returned (.iface 56 (.pointer (some ⟨w.heap.size, 0, none⟩))) ∧ w' = w.alloc (.cells #[.string t] 58) := by
  go_enter Tryf.func21, Tryf.ntmps21
  go_wp2
  go_ret
  exact ⟨rfl, rfl⟩

/-- sequencerError: a new wrapError over the error that it was given. -/
theorem seq_any (F : Interp) (s t : ByteArray) (a : Addr) (w : World) (hF : F.answers w.tape)
    (hs : (w.alloc (.cells #[.iface 9 (.string s), .iface 56 (.pointer (some a))] 20)).cell? a = some (.string t)) :
    Calls Tryf.prog 22 #[.string s, .iface 56 (.pointer (some a))] w fun e w' => ∃ x : ByteArray, e = .returned (.iface 54 (.pointer (some ⟨w.heap.size + 1, 0, none⟩))) ∧
      w' = ((w.alloc (.cells #[.iface 9 (.string s), .iface 56 (.pointer (some a))] 20)).alloc (.cells #[.string x, .iface 56 (.pointer (some a))] 82)).drew := by
  have hF' := answers_open hF
  have hop := opPlain56_119w "fmt.errorf" a t _ hs
  go_enter Tryf.func22, Tryf.ntmps22
  go_wp2
  go_ret
  exact ⟨_, rfl, rfl⟩

/-- errors.Unwrap at a wrapError: what it wraps. -/
theorem unwrap_any (b : Nat) (a : Addr) (w : World) (h1 : w.cell? ⟨b, 1, none⟩ = some (.iface 56 (.pointer (some a)))) :
    Calls Tryf.prog 23 #[.iface 54 (.pointer (some ⟨b, 0, none⟩))] w fun e w' => e = .returned (.iface 56 (.pointer (some a))) ∧ w' = w := by
  have uW := hasUnwrap
  have mU := methodUnwrap
  go_enter Tryf.func23, Tryf.ntmps23
  go_wp2
  go_ret
  exact ⟨rfl, rfl⟩

set_option maxHeartbeats 1000000 in
theorem fresh_any (F : Interp) (s : ByteArray) (w : World) (hF : F.answers w.tape) :
    Calls Tryf.prog 14 #[.string s] w fun e w' => e = .returned (.tuple #[.bool true, .bool true]) ∧ Below w.heap.size w w' := by
  obtain ⟨i, hi, hcmp⟩ := Option.map_eq_some_iff.1 comp56
  obtain ⟨j, hj, hjs⟩ := Option.map_eq_some_iff.1 size58
  have hS := seq_any F s ⟨#[122, 122]⟩ ⟨w.heap.size, 0, none⟩ (w.alloc (.cells #[.string ⟨#[122, 122]⟩] 58)) hF (by go_simp)
  have heq := fun W => run_eql_iface_ptr_same (P := Tryf.prog) W ⟨w.heap.size, 0, none⟩ Tryf.underlying33 Tryf.underlying56 hi hcmp hj
  clear hi hj hcmp hjs
  go_enter Tryf.func14, Tryf.ntmps14
  go_wp2_with fail
  refine (new_any _ _).mono ?_
  rintro e w1 ⟨rfl, rfl⟩
  go_wp2_with fail
  refine hS.mono ?_
  rintro e w2 ⟨x, rfl, rfl⟩
  clear hS
  have hb : Below w.heap.size w (((w.alloc (.cells #[.string ⟨#[122, 122]⟩] 58)).alloc (.cells #[.iface 9 (.string s), .iface 56 (.pointer (some ⟨w.heap.size, 0, none⟩))] 20)).alloc (.cells #[.string x, .iface 56 (.pointer (some ⟨w.heap.size, 0, none⟩))] 82)).drew :=
    ((((Below.refl _ _).alloc (Nat.le_refl _) _).alloc (by simp) _).alloc (by simp; omega) _).drew
  have hc : ((((w.alloc (.cells #[.string ⟨#[122, 122]⟩] 58)).alloc (.cells #[.iface 9 (.string s), .iface 56 (.pointer (some ⟨w.heap.size, 0, none⟩))] 20)).alloc (.cells #[.string x, .iface 56 (.pointer (some ⟨w.heap.size, 0, none⟩))] 82)).drew).cell? ⟨w.heap.size + 1 + 1, 1, none⟩ = some (.iface 56 (.pointer (some ⟨w.heap.size, 0, none⟩))) := by go_simp
  go_wp2_with fail
  generalize (((w.alloc (.cells #[.string ⟨#[122, 122]⟩] 58)).alloc (.cells #[.iface 9 (.string s), .iface 56 (.pointer (some ⟨w.heap.size, 0, none⟩))] 20)).alloc (.cells #[.string x, .iface 56 (.pointer (some ⟨w.heap.size, 0, none⟩))] 82)).drew = W2 at *
  go_quiet ((go_at_call 23; exact Calls.quiet_of_same (unwrap_any _ ⟨w.heap.size, 0, none⟩ _ hc)))
  go_wp2
  go_ret2
  exact ⟨rfl, below_drewN hb _⟩

theorem main_any (F : Interp) (s : ByteArray) (hs : s.size ≤ maxLen) (w : World) (hF : F.answers w.tape) :
    Calls Tryf.prog 4 #[.string s] w fun e w' => e = .returned (.bool true) ∧ Below w.heap.size w w' := by
  have hB := bytes_any s hs w
  have hE := fresh_any F s w hF
  unfold maxLen at *
  go_enter Tryf.func4, Tryf.ntmps4
  go_wp2_with fail
  refine hB.mono ?_
  rintro e w' ⟨b, rfl, rfl⟩
  clear hB
  cases b with
  | false =>
    go_wp2_with fail
    go_ret
    exact ⟨rfl, Below.refl _ _⟩
  | true =>
    by_cases h0 : 1048576 < s.size
    · go_wp2_with fail
      go_ret
      exact ⟨rfl, Below.refl _ _⟩
    go_wp2_with fail
    refine hE.mono ?_
    rintro e w1 ⟨rfl, hb⟩
    clear hE
    go_wp2_with fail
    go_ret
    exact ⟨rfl, hb⟩
end Go.Proofs.Qxb6613521aFmt
