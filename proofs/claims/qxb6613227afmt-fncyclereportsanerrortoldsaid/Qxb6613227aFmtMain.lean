/-
  cycle, ZZcycle and the law itself: whatever function F stands for fmt's texts.
-/
import Derived.Test.Qxb6613227aFmtErrorf
import Derived.Test.Qxb6613227aFmtString
import Derived.Test.Qxb6613227aFmtBytes
namespace Go.Proofs.Qxb6613227aFmt
open Go.RowKit Go.Extern.Stop Go.Stop Go.Extern

theorem cycle_any (F : Interp) (q : Option Addr) (l : List ByteArray) (w : World) (hF : F.answers w.tape) (hch : Chain w q l) (hl : l.length ≤ 4096) (ht : total l ≤ 1048576) :
    Calls Tryf.prog 14 #[.pointer q] w fun e w' => ∃ a, e = .returned (.iface 58 (.pointer (some a))) ∧ Below w.heap.size w w' := by
  have hb : Below w.heap.size w (w.alloc (.cells #[.iface 25 (.pointer q)] 20)) := (Below.refl _ _).alloc (Nat.le_refl _) _
  have hE := errorf_any F q w.heap.size (w.alloc (.cells #[.iface 25 (.pointer q)] 20)) (by rw [hb.tape]; exact hF) (by simp) (string_any q l _ (hch.below hb) hl ht)
  clear hch
  go_enter Tryf.func14, Tryf.ntmps14
  go_wp2_with fail
  refine hE.mono ?_
  rintro e w1 ⟨a, rfl, hb1⟩
  go_wp2_with fail
  go_ret
  exact ⟨a, rfl, hb.trans (hb1.mono hb.size)⟩

theorem zzcycle_any (F : Interp) (q : Option Addr) (l : List ByteArray) (w : World) (hF : F.answers w.tape) (hch : Chain w q l) (hl : l.length ≤ 4096) (ht : total l ≤ 1048576) :
    Calls Tryf.prog 7 #[.pointer q] w fun e w' => ∃ a, e = .returned (.iface 58 (.pointer (some a))) ∧ Below w.heap.size w w' := by
  have hE := cycle_any F q l w hF hch hl ht
  clear hch
  go_enter Tryf.func7, Tryf.ntmps7
  go_wp2_with fail
  refine hE.mono ?_
  rintro e w1 ⟨a, rfl, hb1⟩
  go_wp2_with fail
  go_ret
  exact ⟨a, rfl, hb1⟩

/-- The first k names, the last of them ahead: as the loop links them. -/
def namesTo (Sx : Nat → ByteArray) : Nat → List ByteArray
  | 0 => []
  | k + 1 => Sx k :: namesTo Sx k

theorem namesTo_length (Sx : Nat → ByteArray) (k : Nat) : (namesTo Sx k).length = k := by
  induction k with
  | zero => rfl
  | succ k ih => simp [namesTo, ih]

/-- The slice of m bools at bd holds the flags Bx 0, Bx 1, .. -/
def Flags (w : World) (bd : Option Addr) (m : Nat) (Bx : Nat → Bool) : Prop :=
  0 < m → ∃ b off, bd = some ⟨b, off, none⟩ ∧ ∀ j, j < m → w.cell? ⟨b, off + j, none⟩ = some (.bool (Bx j))

set_option maxHeartbeats 2000000 in
theorem main_any (F : Interp) (ad : Option Addr) (n c : Nat) (bd : Option Addr) (m d : Nat) (Sx : Nat → ByteArray) (Bx : Nat → Bool) (w : World) (hF : F.answers w.tape) (hN : Names w ad n Sx) (hM : Flags w bd m Bx)
    (hn : n ≤ maxLen) (hm : m ≤ maxLen) (hS : ∀ j, j < n → (Sx j).size ≤ maxLen) :
    Calls Tryf.prog 3 #[.slice ad n c, .slice bd m d] w fun e w' => e = .returned (.bool true) ∧ Below w.heap.size w w' := by
  have hB := bytes_any ad n c bd m d Sx w hN hn hm hS
  have HN : Hid (Names w ad n Sx) := hN
  have HM : Hid (Flags w bd m Bx) := hM
  clear hN hM hS
  unfold maxLen at *
  go_enter Tryf.func3, Tryf.ntmps3
  go_wp2_with fail
  refine hB.mono ?_
  rintro e w' ⟨r, rfl, rfl, hr⟩
  cases r with
  | false =>
    go_wp2_with fail
    go_ret
    exact ⟨rfl, Below.refl _ _⟩
  | true =>
    have HR : Hid (∀ j, j < n → (Sx j).size ≤ 1048576) := hr rfl
    clear hr hB
    by_cases h1 : 4096 < n
    · go_wp2_with fail
      go_ret
      exact ⟨rfl, Below.refl _ _⟩
    by_cases h2 : 4096 < m
    · go_wp2_with fail
      go_ret
      exact ⟨rfl, Below.refl _ _⟩
    go_wp2_with fail
    go_loop [5, 6] (fun t i => ∃ (k : Nat), k ≤ n ∧ i = .int .i64 k ∧ t = .int .i64 ((m + 16 * n + total (namesTo Sx k) : Nat) : Int) ∧ (0 < k → total (namesTo Sx k) ≤ 1048576)) (fun _ i => n - (intOf i).toNat)
    case atStart => exact ⟨0, Nat.zero_le _, rfl, by simp [namesTo, total], by omega⟩
    case round =>
      obtain ⟨k, hk, rfl, rfl, hz⟩ := hrel
      have hz' : total (namesTo Sx k) ≤ 1048576 := by
        by_cases h : 0 < k
        · exact hz h
        · have : k = 0 := by omega
          subst this; simp [namesTo, total]
      clear hz
      have et : total (namesTo Sx (k + 1)) = (Sx k).size + total (namesTo Sx k) := rfl
      have HT : Hid (total (namesTo Sx (k + 1)) = (Sx k).size + total (namesTo Sx k)) := et
      clear et
      generalize hg : total (namesTo Sx k) = z at *
      have HG : Hid (total (namesTo Sx k) = z) := hg
      clear hg
      by_cases hlt : k < n
      · obtain ⟨b, off, rfl, hc⟩ := HN.out (by omega)
        have hck := hc k hlt
        have hsk := HR.out k hlt
        clear hc
        by_cases h3 : 1048576 < m + 16 * n + z + (Sx k).size
        · go_wp2_with fail
          go_ret
          exact ⟨rfl, Below.refl _ _⟩
        go_wp2_with fail
        go_round
        case rel => exact ⟨k + 1, by omega, by go_num, by rw [HT.out]; go_num, fun _ => by rw [HT.out]; omega⟩
        case measure => simp [intOf]; omega
      · have HZ : Hid (total (namesTo Sx n) ≤ 1048576) := by
          have hkn : k = n := by omega
          subst hkn
          show _ ≤ _
          rw [HG.out]; exact hz'
        clear HT HG
        go_wp2_with fail
        go_loopw [7, 8] (fun p i wr => ∃ (k : Nat) (q : Option Addr), k ≤ n ∧ i = .int .i64 k ∧ p = .pointer q ∧ Hid (Chain wr q (namesTo Sx k)) ∧ Below w'.heap.size w' wr) (fun _ i _ => n - (intOf i).toNat)
        case atStart => exact ⟨0, none, Nat.zero_le _, rfl, rfl, rfl, Below.refl _ _⟩
        case round =>
          obtain ⟨k, q, hk, rfl, rfl, HC, hnx⟩ := hrel
          by_cases hlt : k < n
          · obtain ⟨b, off, rfl, hc⟩ := HN.out (by omega)
            have hck : wr.cell? ⟨b, off + k, none⟩ = some (.string (Sx k)) := (hnx.cell (World.block_lt_of_cell? _ _ (hc k hlt))).trans (hc k hlt)
            clear hc
            by_cases hkm : k < m
            · obtain ⟨b2, off2, rfl, hc2⟩ := HM.out (by omega)
              have hck2 : wr.cell? ⟨b2, off2 + k, none⟩ = some (.bool (Bx k)) := (hnx.cell (World.block_lt_of_cell? _ _ (hc2 k hkm))).trans (hc2 k hkm)
              clear hc2
              go_wp2_with fail
              go_roundw
              case rel => exact ⟨k + 1, _, by omega, by go_num, rfl, HC.out.push (Sx k) (Bx k), hnx.alloc hnx.size _⟩
              case measure => simp [intOf]; omega
            · go_wp2_with fail
              go_roundw
              case rel => exact ⟨k + 1, _, by omega, by go_num, rfl, HC.out.push (Sx k) false, hnx.alloc hnx.size _⟩
              case measure => simp [intOf]; omega
          · have hkn : k = n := by omega
            have hE := zzcycle_any F q (namesTo Sx n) wr (by rw [hnx.tape]; exact hF) (by rw [← hkn]; exact HC.out) (by rw [namesTo_length]; omega) HZ.out
            clear hkn HC
            go_wp2_with fail
            refine hE.mono ?_
            rintro e w1 ⟨a, rfl, hb1⟩
            clear hE
            go_wp2_with fail
            go_ret
            exact ⟨rfl, hnx.trans (hb1.mono hnx.size)⟩
end Go.Proofs.Qxb6613227aFmt
