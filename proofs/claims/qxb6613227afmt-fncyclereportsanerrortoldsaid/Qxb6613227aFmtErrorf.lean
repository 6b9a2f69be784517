/-
  fmt.Errorf at this format, over the stop that calls the operand's own String.
-/
import Derived.Test.Qxb6613227aFmtFmt
import Derived.WalkKit
import Derived.WalkSpells
import Derived.BigCall
import Derived.Deep.DeepFit
namespace Go.Proofs.Qxb6613227aFmt
open Go.RowKit Go.Extern.Stop Go.Stop Go.Extern

set_option maxHeartbeats 800000 in
theorem errorf_any (F : Interp) (p : Option Addr) (blk : Nat) (w : World) (hF : F.answers w.tape)
    (hc0 : w.cell? ⟨blk, 0, none⟩ = some (.iface 25 (.pointer p)))
    (hS : Calls Tryf.prog 25 #[.pointer p] w fun e w' => ∃ s : ByteArray, e = .returned (.string s) ∧ Below w.heap.size w w') :
    Calls Tryf.prog 18 #[.string ⟨#[105, 110, 99, 108, 117, 100, 101, 32, 99, 121, 99, 108, 101, 58, 32, 37, 115]⟩, .slice (some ⟨blk, 0, none⟩) 1 1] w fun e w' =>
      ∃ a, e = .returned (.iface 58 (.pointer (some a))) ∧ Below w.heap.size w w' := by
  have hF' := answers_open hF
  have hb : blk < w.heap.size := World.block_lt_of_cell? _ _ hc0
  have HS : Hid (Calls Tryf.prog 25 #[.pointer p] w fun e w' => ∃ s : ByteArray, e = .returned (.string s) ∧ Below w.heap.size w w') := hS
  clear hS
  go_enter Tryf.func18, Tryf.ntmps18
  go_wp2
  apply rows_call nextTurns
  case hr =>
    go_simp
    exact ⟨⟨rfl, rfl, rfl⟩, rfl⟩
  case hi => exact invokeString25 _ _
  case hc =>
    refine HS.out.mono ?_
    rintro e w₃ ⟨s, rfl, hx⟩
    have hF3 := answers_open (show F.answers w₃.tape by rw [hx.tape]; exact hF)
    have hc03 : w₃.cell? ⟨blk, 0, none⟩ = some (.iface 25 (.pointer p)) := by rw [hx.cell hb]; exact hc0
    apply rows_value nextReturned
    case hr =>
      go_simp
      exact ⟨rfl, rfl⟩
    case h =>
      go_wp2
      go_ret
      exact ⟨_, rfl, (hx.alloc hx.size _).drew⟩
end Go.Proofs.Qxb6613227aFmt
