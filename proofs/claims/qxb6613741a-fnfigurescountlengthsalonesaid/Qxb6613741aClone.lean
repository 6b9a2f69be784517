/-
  zzClone: a copy of a slice of bytes, in new memory.
-/
import Derived.Test.Qxb6613741aAddrs
import Derived.Laws.CopyOwn
namespace Go.Proofs.Qxb6613741a
open Go.RowKit

theorem zero5 : (Try.prog.info? 5).map (fun i => (i.zero, i.size, i.bytes)) = some (some (.int .u8 0), 1, 1) := by kernel_rfl
theorem size5 : (Try.prog.info? 5).map (·.size) = some 1 := by kernel_rfl

/-- The slice of n bytes at ad: cell j holds X j. -/
def Src1 (w : World) (ad : Option Addr) (n : Nat) (X : Nat → Int) : Prop :=
  (ad = none → n = 0) ∧ (0 < n → ∃ b off, ad = some ⟨b, off, none⟩ ∧ ∀ j, j < n → w.cell? ⟨b, off + j, none⟩ = some (.int .u8 (X j)))

/-- 'make' of n elements of one cell: the new block, whole. -/
theorem wpList_make_block {P : Program} (w : World) {ops : Array Oper} {rest : List Oper} {o : Oper} {a : Act} {Q : Exit → Act → World → Prop}
    (hg : o.guard = none) (l c : Operand) (t : TypeId) (hop : o.op = Op.makeSlice t l c)
    (e : TypeId) (i : TypeInfo) (z : Value) (h1 : P.underlying t = some (.slice e)) (h2 : P.info? e = some i) (h3 : i.zero = some z) (h4 : i.size = 1)
    (kl kc : IntKind) (L C : Int) (n : Nat) (hl : a.eval l = .int kl L) (hc : a.eval c = .int kc C) (hL : L = (n : Int)) (hC : C = (n : Int)) (b2 : i.bytes * n ≤ 281474976710656) (b3 : n ≤ maxLen)
    (hK : ∀ (w' : World) (cur : List Value), Hid (w'.heap[w.heap.size]? = some (.cells cur.toArray e (0, 0)) ∧ cur.length = n) → Below w.heap.size w w' → wpList P ops Q rest (a.put o.dst (.slice (some ⟨w.heap.size, 0, none⟩) n n)) w') :
    wpList P ops Q (o :: rest) a w := by
  refine wpList_make_full w hg l c t hop w.heap.size e i z 1 h1 h2 h3 h4 kl kc L C n hl hc hL hC b2 b3 (Nat.le_refl _) ?_
  intro w' hown hgrow
  have hb : Below w.heap.size w w' := (Below.refl _ _).grown hgrow (Nat.le_refl _) (fun k hk => by cases hk)
  obtain ⟨_, hr⟩ := hown
  rcases hr with ⟨hv, _⟩ | ⟨g, cap, cur, hv, _, hh, _, _, hs, _⟩
  · cases hv
  · cases hv
    exact hK w' cur.toList ⟨by simpa using hh, by simpa using hs⟩ hb

theorem bytes_at (X : Nat → Int) (n j : Nat) (v : Value) (h : ((List.range n).map fun j => Value.int .u8 (X j))[j]? = some v) : j < n ∧ v = .int .u8 (X j) := by
  rw [List.getElem?_map] at h
  obtain ⟨i, hi, rfl⟩ := Option.map_eq_some_iff.1 h
  obtain ⟨h1, h2⟩ := List.getElem?_eq_some_iff.1 hi
  simp at h1 h2
  exact ⟨h1, by rw [← h2]⟩

/-- What copy does here: it runs; nothing old has turned. -/
theorem copy_runs (w w1 : World) (a : Addr) (n c : Nat) (X : Nat → Int) (cur : List Value)
    (hS : 0 < n → ∃ b off, some a = some ⟨b, off, none⟩ ∧ ∀ j, j < n → w.cell? ⟨b, off + j, none⟩ = some (.int .u8 (X j)))
    (hC : w1.heap[w.heap.size]? = some (.cells cur.toArray 5 (0, 0)) ∧ cur.length = n) (hb : Below w.heap.size w w1) :
    ∃ v w2, (Builtin.copy_ #[24, 24] 3 #[.slice (some ⟨w.heap.size, 0, none⟩) n n, .slice (some a) n c]).run Try.prog w1 = .ok v w2 ∧ Below w.heap.size w w2 := by
  by_cases h0 : n = 0
  · subst h0
    exact ⟨_, _, run_copy_none (P := Try.prog) w1 24 24 3 5 _ _ 0 0 0 c Try.underlying24 size5 rfl, hb⟩
  · obtain ⟨b, off, hab, hc⟩ := hS (by omega)
    cases hab
    have hl : ((List.range n).map fun j => Value.int .u8 (X j)).length = n := by simp
    refine ⟨_, _, run_copy_row (P := Try.prog) w1 24 24 3 5 w.heap.size 0 n n ⟨b, off, none⟩ n c cur.toArray 5 ((List.range n).map fun j => Value.int .u8 (X j)) Try.underlying24 size5 hC.1 (by rw [hl]; exact (Nat.min_self n).symm) ?_ (by rw [hl]; simp [hC.2]) ?_, below_setRow hb (Nat.le_refl _) _⟩
    · intro j v hj
      obtain ⟨h1, rfl⟩ := bytes_at X n j v hj
      rw [Addr.add_mid]
      exact (hb.cell (World.block_lt_of_cell? _ _ (hc j h1))).trans (hc j h1)
    · intro v hv
      obtain ⟨j, hj⟩ := List.getElem?_of_mem hv
      rw [(bytes_at X n j v hj).2]; rfl

set_option maxRecDepth 100000 in
set_option maxHeartbeats 1000000 in
theorem clone_any (ad : Option Addr) (n c : Nat) (X : Nat → Int) (w : World) (hsrc : Src1 w ad n X) (hn : n ≤ 1048576) :
    Calls Try.prog 9 #[.slice ad n c] w (SlicePost n w) := by
  obtain ⟨hnil, hsome⟩ := hsrc
  cases ad with
  | none =>
    have hn0 : n = 0 := hnil rfl
    subst hn0
    have heq := fun W => Lib.run_eql_slice_nil (P := Try.prog) W 24 5 none 0 c 0 0 Try.underlying24
    clear hnil hsome
    go_enter Try.func9, Try.ntmps9
    go_wp2
    go_ret
    exact ⟨none, 0, rfl, Below.refl _ _⟩
  | some a =>
    have heq := fun W => Lib.run_eql_slice_nil (P := Try.prog) W 24 5 (some a) n c 0 0 Try.underlying24
    have HS : Hid (0 < n → ∃ b off, some a = some ⟨b, off, none⟩ ∧ ∀ j, j < n → w.cell? ⟨b, off + j, none⟩ = some (.int .u8 (X j))) := hsome
    obtain ⟨i0, hi, hz0, hz1, hz2⟩ := info_parts zero5
    have HI : Hid (Try.prog.info? 5 = some i0 ∧ i0.zero = some (.int .u8 0) ∧ i0.size = 1 ∧ i0.bytes = 1) := ⟨hi, hz0, hz1, hz2⟩
    clear hnil hsome hi hz0 hz1 hz2
    go_enter Try.func9, Try.ntmps9
    go_wp2_with (first
      | (at_make; refine wpList_make_block _ rfl (.tmp 7) (.tmp 7) 24 rfl 5 i0 (.int .u8 0) Try.underlying24 HI.out.1 HI.out.2.1 HI.out.2.2.1 .i64 .i64 _ _ n rfl rfl (by omega) (by omega) ?b2 ?b3 ?_))
    case b2 => rw [HI.out.2.2.2]; omega
    case b3 => unfold maxLen; omega
    intro w1 cur HC hb1
    obtain ⟨v, w2, hcp, hb2⟩ := copy_runs w w1 a n c X cur HS.out HC.out hb1
    clear hb1 HC
    go_wp2
    go_ret
    exact ⟨some ⟨w.heap.size, 0, none⟩, n, rfl, hb2⟩
end Go.Proofs.Qxb6613741a
