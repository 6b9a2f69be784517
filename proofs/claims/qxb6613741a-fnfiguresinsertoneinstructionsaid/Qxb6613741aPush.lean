/-
  Laws for the walk of 'ins = append(ins, base[i])': seventeen cells at a time, none unrolled.
-/
import Derived.Test.Qxb6613741aInstrs
namespace Go.Proofs.Qxb6613741a
open Go.RowKit

theorem size34r (f : Nat → Value) : (Try.prog.info? 34).map (·.size) = some (row17 f).length := size34
theorem size25r (x : Nat → Int) : (Try.prog.info? 25).map (·.size) = some (row16 x).length := size25

theorem run_build30 (f : Nat → Value) (w : World) : (Instr.buildSlice 30 1 #[(0, .agg (row17 f).toArray)]).run Try.prog w = .ok (.slice (some ⟨w.heap.size, 0, none⟩) 1 1) (w.alloc (.cells (row17 f).toArray 34)) := by kernel_rfl
theorem run_build34 (x : Nat → Int) (w : World) : (Instr.build 34 #[(0, .int .u8 (x 0)), (1, .agg (row16 x).toArray)]).run Try.prog w = .ok (.agg (instr17 x).toArray) w := run_build w 34 _ _ (by kernel_rfl)

theorem wpList_slice17 {ops : Array Oper} {rest : List Oper} {op : Oper} {a : Act} {w : World} {Q : Exit → Act → World → Prop} (hgd : op.guard = none) (x : Operand) (ho : op.op = .buildSlice 30 1 #[(0, x)])
    (f : Nat → Value) (hx : a.eval x = .agg (row17 f).toArray)
    (h : wpList Try.prog ops Q rest (a.put op.dst (.slice (some ⟨w.heap.size, 0, none⟩) 1 1)) (w.alloc (.cells (row17 f).toArray 34))) : wpList Try.prog ops Q (op :: rest) a w := by
  refine wpList_plain hgd fun _ hK => ?_
  unfold Oper.wp execOp
  simp only [ho, List.map_toArray, List.map_cons, List.map_nil, hx, Sem.run_bind, run_build30, Sem.run_pure, Result.andThen_ok]
  exact hK _ _ h

theorem wpList_instr17 {ops : Array Oper} {rest : List Oper} {op : Oper} {a : Act} {w : World} {Q : Exit → Act → World → Prop} (hgd : op.guard = none) (x y : Operand) (ho : op.op = .build 34 #[(0, x), (1, y)])
    (f : Nat → Int) (hx : a.eval x = .int .u8 (f 0)) (hy : a.eval y = .agg (row16 f).toArray)
    (h : wpList Try.prog ops Q rest (a.put op.dst (.agg (instr17 f).toArray)) w) : wpList Try.prog ops Q (op :: rest) a w := by
  refine wpList_plain hgd fun _ hK => ?_
  unfold Oper.wp execOp
  simp only [ho, List.map_toArray, List.map_cons, List.map_nil, hx, hy, Sem.run_bind, run_build34, Sem.run_pure, Result.andThen_ok]
  exact hK _ _ h

theorem new17 (w : World) (f : Nat → Value) : ∀ j u, (row17 f)[j]? = some u → (w.alloc (.cells (row17 f).toArray 34)).cell? ((⟨w.heap.size, 0, none⟩ : Addr).add j) = some u := by
  intro j u hj
  rw [Addr.add_mid, Nat.zero_add]
  have : (w.alloc (.cells (row17 f).toArray 34)).cell? ⟨w.heap.size, j, none⟩ = (row17 f).toArray[j]? := by simp
  exact this.trans (by simpa using hj)
end Go.Proofs.Qxb6613741a
