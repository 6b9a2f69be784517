/-
  (*IncludePath).String: at every chain that lies in memory it returns some text; nothing old has turned.
-/
import Derived.Test.Qxb6613227aFmtTail
import Derived.WalkKit
import Derived.WalkSpells
import Derived.BigCall
import Derived.Deep.DeepFit
namespace Go.Proofs.Qxb6613227aFmt
open Go.RowKit

theorem info9 : (Tryf.prog.info? 9).map (fun i => (i.zero, i.size, i.bytes)) = some (some (.string ⟨#[]⟩), 1, 16) := by kernel_rfl

/-- What one append leaves of the relation. -/
theorem own_step {B : Nat} {w wr w1 : World} {v v' : Value} {xs : List ByteArray} {s : ByteArray} {o : Obj} (hown : wr.ownsRow B 9 1 v xs.length (xs.map Value.string)) (hnx : Below B w wr) (hB : B ≤ wr.heap.size)
    (hown' : w1.ownsRow B 9 1 v' (xs.length + 1) (xs.map Value.string ++ [Value.string s])) (hg : (wr.alloc o).grownBy w1 v.ownBlock) :
    w1.ownsRow B 9 1 v' (xs ++ [s]).length ((xs ++ [s]).map Value.string) ∧ Below B w w1 := by
  refine ⟨by simpa using hown', (hnx.alloc hB o).grown hg (by simp; omega) (fun k hk => (hown.lt k hk).1)⟩

set_option maxHeartbeats 1000000 in
theorem string_any (q : Option Addr) (l : List ByteArray) (w : World) (hch : Chain w q l) (hl : l.length ≤ 4096) (ht : total l ≤ 1048576) :
    Calls Tryf.prog 25 #[.pointer q] w fun e w' => ∃ s : ByteArray, e = .returned (.string s) ∧ Below w.heap.size w w' := by
  obtain ⟨i0, hi, hz0, hz1, hz2⟩ := info_parts info9
  have HI : Hid (Tryf.prog.info? 9 = some i0 ∧ i0.zero = some (.string ⟨#[]⟩) ∧ i0.size = 1 ∧ i0.bytes = 16) := ⟨hi, hz0, hz1, hz2⟩
  clear hi hz0 hz1 hz2
  go_enter Tryf.func25, Tryf.ntmps25
  go_wp2
  go_loopw [0, 3] (fun pv v wr => ∃ (q : Option Addr) (l xs : List ByteArray), pv = .pointer q ∧ Hid (Chain w q l) ∧ wr.ownsRow w.heap.size 9 1 v xs.length (xs.map Value.string) ∧ Below w.heap.size w wr ∧
      xs.length + 2 * l.length ≤ 8192 ∧ Hid (total xs + total l + 3 * l.length ≤ 1100000))
    (fun pv _ _ => rank pv)
  case atStart =>
    exact ⟨q, l, [], rfl, hch, World.ownsRow_nil _ _ _ _, Below.refl _ _, by simp; omega, show _ ≤ _ by simp [total]; omega⟩
  case round =>
    clear hch hl ht
    obtain ⟨q, l, xs, rfl, HC, hown, hnx, hlen, HT⟩ := hrel
    cases l with
    | nil =>
      have hq : q = none := HC.out
      subst hq
      have hl8 : xs.length ≤ 8192 := by simp at hlen; omega
      have ht8 : total xs.reverse ≤ 1100000 := by have := HT.out; rw [total_reverse]; simp [total] at this; omega
      go_wp2_with fail
      refine (reverse_own _ _ _ _ hown hl8).mono ?_
      rintro e w1 ⟨rfl, hs1, hb1⟩
      clear hown
      go_wp2_with fail
      refine (join_strs _ _ _ hs1 (by simpa using hl8) ht8).mono ?_
      rintro e w2 ⟨s, rfl, hb2⟩
      clear hs1
      go_wp2_with fail
      go_ret
      exact ⟨s, rfl, (hnx.trans hb1).trans (hb2.mono (Nat.le_trans hnx.size hb1.size))⟩
    | cons s l =>
      obtain ⟨b, q', nd, rfl, h0, h1, h2, h3, h4⟩ := HC.out
      have hbB : b < w.heap.size := World.block_lt_of_cell? _ _ h0
      have g1 : wr.cell? ⟨b, 1, none⟩ = some (.string s) := (hnx.cell (by exact hbB)).trans h1
      have hbase : w.heap.size ≤ wr.heap.size := hnx.size
      cases q' with
      | none =>
        go_wp2_with (first
          | (at_builtin; refine wpList_append_own _ rfl (.tmp 10) (.tmp 15) 22 rfl w.heap.size 9 i0 (.string ⟨#[]⟩) 1 16 Tryf.underlying22 HI.out.1 HI.out.2.1 HI.out.2.2.1 HI.out.2.2.2 rfl (by decide) _ _ _ rfl (hown.alloc _) ⟨wr.heap.size, 0, none⟩ 1 1 [.string s] rfl rfl ?c1 ?c2 ?c3 ?c4 ?c5 ?_))
        case c1 => exact cell_one_new _ _ _
        case c2 => intro u hu; simp at hu; subst hu; rfl
        case c3 => unfold maxLen; omega
        case c4 => omega
        case c5 => simp; omega
        intro v1 w1 hown1 hgrow1 _
        obtain ⟨ho1, hb1⟩ := own_step hown hnx hbase hown1 hgrow1
        have k0 : w1.cell? ⟨b, 0, none⟩ = some (.pointer none) := (hb1.cell (by exact hbB)).trans h0
        have k2 : w1.cell? ⟨b, 2, none⟩ = some (.bool nd) := (hb1.cell (by exact hbB)).trans h2
        clear hown hown1 hgrow1 g1 hnx
        go_wp2_with fail
        refine ⟨⟨none, l, xs ++ [s], rfl, h4, ho1, hb1, by simp at hlen ⊢; omega, ?_⟩, by simp [rank]⟩
        have := HT.out
        show _ ≤ _
        simp [total, total_append] at this ⊢
        omega
      | some a' =>
        cases nd with
        | true =>
          go_wp2_with (first
            | (at_builtin; refine wpList_append_own _ rfl (.tmp 10) (.tmp 15) 22 rfl w.heap.size 9 i0 (.string ⟨#[]⟩) 1 16 Tryf.underlying22 HI.out.1 HI.out.2.1 HI.out.2.2.1 HI.out.2.2.2 rfl (by decide) _ _ _ rfl (hown.alloc _) ⟨wr.heap.size, 0, none⟩ 1 1 [.string s] rfl rfl ?c1 ?c2 ?c3 ?c4 ?c5 ?_))
          case c1 => exact cell_one_new _ _ _
          case c2 => intro u hu; simp at hu; subst hu; rfl
          case c3 => unfold maxLen; omega
          case c4 => omega
          case c5 => simp; omega
          intro v1 w1 hown1 hgrow1 _
          obtain ⟨ho1, hb1⟩ := own_step hown hnx hbase hown1 hgrow1
          have k0 : w1.cell? ⟨b, 0, none⟩ = some (.pointer (some a')) := (hb1.cell (by exact hbB)).trans h0
          have k2 : w1.cell? ⟨b, 2, none⟩ = some (.bool true) := (hb1.cell (by exact hbB)).trans h2
          clear hown hown1 hgrow1 g1 hnx
          have hbase1 : w.heap.size ≤ w1.heap.size := hb1.size
          have hl1 : (xs ++ [s]).length + 1 ≤ 8192 := by simp at hlen ⊢; omega
          go_wp2_with (first
            | (at_builtin; refine wpList_append_own _ rfl (.tmp 31) (.tmp 32) 22 rfl w.heap.size 9 i0 (.string ⟨#[]⟩) 1 16 Tryf.underlying22 HI.out.1 HI.out.2.1 HI.out.2.2.1 HI.out.2.2.2 rfl (by decide) _ _ _ rfl (ho1.alloc _) ⟨w1.heap.size, 0, none⟩ 1 1 [.string (⟨#[32, 60, 32]⟩ : ByteArray)] rfl rfl ?d1 ?d2 ?d3 ?d4 ?d5 ?_))
          case d1 => exact cell_one_new _ _ _
          case d2 => intro u hu; simp at hu; subst hu; rfl
          case d3 => unfold maxLen; omega
          case d4 => omega
          case d5 => simp; omega
          intro v2 w2 hown2 hgrow2 _
          obtain ⟨ho2, hb2⟩ := own_step (s := (⟨#[32, 60, 32]⟩ : ByteArray)) (v' := v2) ho1 hb1 hbase1 (by simpa using hown2) hgrow2
          have m0 : w2.cell? ⟨b, 0, none⟩ = some (.pointer (some a')) := (hb2.cell (by exact hbB)).trans h0
          clear ho1 hown2 hgrow2 k0 k2 hb1 hl1
          go_wp2_with fail
          refine ⟨⟨some a', l, xs ++ [s] ++ [(⟨#[32, 60, 32]⟩ : ByteArray)], rfl, h4, ho2, hb2, by simp at hlen ⊢; omega, ?_⟩, by have := h3 a' rfl; simp [rank]; omega⟩
          have := HT.out
          show _ ≤ _
          simp [total, total_append] at this ⊢
          have e3 : (⟨#[32, 60, 32]⟩ : ByteArray).size = 3 := rfl
          omega
        | false =>
          go_wp2_with (first
            | (at_builtin; refine wpList_append_own _ rfl (.tmp 10) (.tmp 15) 22 rfl w.heap.size 9 i0 (.string ⟨#[]⟩) 1 16 Tryf.underlying22 HI.out.1 HI.out.2.1 HI.out.2.2.1 HI.out.2.2.2 rfl (by decide) _ _ _ rfl (hown.alloc _) ⟨wr.heap.size, 0, none⟩ 1 1 [.string s] rfl rfl ?c1 ?c2 ?c3 ?c4 ?c5 ?_))
          case c1 => exact cell_one_new _ _ _
          case c2 => intro u hu; simp at hu; subst hu; rfl
          case c3 => unfold maxLen; omega
          case c4 => omega
          case c5 => simp; omega
          intro v1 w1 hown1 hgrow1 _
          obtain ⟨ho1, hb1⟩ := own_step hown hnx hbase hown1 hgrow1
          have k0 : w1.cell? ⟨b, 0, none⟩ = some (.pointer (some a')) := (hb1.cell (by exact hbB)).trans h0
          have k2 : w1.cell? ⟨b, 2, none⟩ = some (.bool false) := (hb1.cell (by exact hbB)).trans h2
          clear hown hown1 hgrow1 g1 hnx
          have hbase1 : w.heap.size ≤ w1.heap.size := hb1.size
          have hl1 : (xs ++ [s]).length + 1 ≤ 8192 := by simp at hlen ⊢; omega
          go_wp2_with (first
            | (at_builtin; refine wpList_append_own _ rfl (.tmp 17) (.tmp 18) 22 rfl w.heap.size 9 i0 (.string ⟨#[]⟩) 1 16 Tryf.underlying22 HI.out.1 HI.out.2.1 HI.out.2.2.1 HI.out.2.2.2 rfl (by decide) _ _ _ rfl (ho1.alloc _) ⟨w1.heap.size, 0, none⟩ 1 1 [.string (⟨#[32, 62, 32]⟩ : ByteArray)] rfl rfl ?d1 ?d2 ?d3 ?d4 ?d5 ?_))
          case d1 => exact cell_one_new _ _ _
          case d2 => intro u hu; simp at hu; subst hu; rfl
          case d3 => unfold maxLen; omega
          case d4 => omega
          case d5 => simp; omega
          intro v2 w2 hown2 hgrow2 _
          obtain ⟨ho2, hb2⟩ := own_step (s := (⟨#[32, 62, 32]⟩ : ByteArray)) (v' := v2) ho1 hb1 hbase1 (by simpa using hown2) hgrow2
          have m0 : w2.cell? ⟨b, 0, none⟩ = some (.pointer (some a')) := (hb2.cell (by exact hbB)).trans h0
          clear ho1 hown2 hgrow2 k0 k2 hb1 hl1
          go_wp2_with fail
          refine ⟨⟨some a', l, xs ++ [s] ++ [(⟨#[32, 62, 32]⟩ : ByteArray)], rfl, h4, ho2, hb2, by simp at hlen ⊢; omega, ?_⟩, by have := h3 a' rfl; simp [rank]; omega⟩
          have := HT.out
          show _ ≤ _
          simp [total, total_append] at this ⊢
          have e3 : (⟨#[32, 62, 32]⟩ : ByteArray).size = 3 := rfl
          omega
end Go.Proofs.Qxb6613227aFmt
