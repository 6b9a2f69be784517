/-
  THE PROOF OF 'Rows.FnFiguresInsertOneInstructionSaid': the walk (Qxb6613741aInsert.lean) lifted to the row.
-/
import Derived.Test.Qxb6613741aInsert
import Derived.Test.Qxb6613741aOpens
namespace Go.Proofs.Qxb6613741a.fnFiguresInsertOneInstruction
open Go.ChangeShapes Go.WideShapes Go.ChangeAt Go.RowKit Go.Deep

theorem own : ownKnob Try.prog.godebug = none := by kernel_rfl
theorem laidOut : laidOutB Try.prog = true := by kernel_rfl

theorem bounds {t : Int} (h : (Lit.int .i64 t).wf = true) : -9223372036854775808 ≤ t ∧ t ≤ 9223372036854775807 := by
  simp [Lit.wf, IntKind.min, IntKind.max, IntKind.signed, IntKind.bits] at h
  omega

set_option maxRecDepth 100000 in
theorem lifted (os : Os) (started : os.Started) (H : Type) (enc : TypeId × Value → H) :
    ReturnsInHanded {} Try.checked os 3 .any (Rows.fnFiguresInsertOneInstructionSpec.pre6 enc Try.prog Try.f3 Rows.fnFiguresInsertOneInstructionRow.domain false) (Rows.fnFiguresInsertOneInstructionSpec.post enc Try.prog Try.f3 false true false false) := by
  refine returnsInHanded_of_change (C := Try.checked) own started (by kernel_rfl) Try.func3
    (ChangeSpec.witness6 (enc := enc) (C := Try.checked) false ⟨#[], #[.slice none 0 0, .slice none 0 0, .slice none 0 0, .int .i64 0, zero17], []⟩ 8 (by kernel_rfl) (by kernel_rfl) (by kernel_rfl) (by kernel_rfl)) ?_
  intro W base args ds gs before hval0 hW _ _
  have hval : ∀ (j : Nat) t v, Try.f3.params[j]? = some t → args[j]? = some v → Value.okWide Try.prog W .any base t v := hval0
  have hW' := hW
  obtain ⟨p, q, hA0, hV, rfl, hfz, hnd⟩ := hW
  have hA : DataW.TrodAll enc Try.prog W 0 (fun _ => true) true Try.f3.params.toList args.toList ds p := hA0
  rw [Try.params3] at hA hval
  obtain ⟨v0, vs0, d0, ds0, p0, q0, hargs, rfl, rfl, h0, r0⟩ := trodAll_cons hA
  obtain ⟨v1, vs1, d1, ds1, p1, q1, rfl, rfl, rfl, h1, r1⟩ := trodAll_cons r0
  obtain ⟨v2, vs2, d2, ds2, p2, q2, rfl, rfl, rfl, h2, r2⟩ := trodAll_cons r1
  obtain ⟨v3, vs3, d3, ds3, p3, q3, rfl, rfl, rfl, h3, r3⟩ := trodAll_cons r2
  obtain ⟨v4, vs4, d4, ds4, p4, q4, rfl, rfl, rfl, h4, r4⟩ := trodAll_cons r3
  obtain ⟨rfl, rfl, rfl⟩ := trodAll_nil r4
  obtain rfl : args = #[v0, v1, v2, v3, v4] := by cases args; simp_all
  obtain ⟨rfl, rfl⟩ := trodVars_none hV
  obtain ⟨a0, n0, c0, rfl⟩ := okWide_slice Try.underlying22 (hval 0 22 v0 rfl rfl)
  obtain ⟨a1, n1, c1, rfl⟩ := okWide_slice Try.underlying23 (hval 1 23 v1 rfl rfl)
  obtain ⟨a2, n2, c2, rfl⟩ := okWide_slice Try.underlying24 (hval 2 24 v2 rfl rfl)
  obtain ⟨t, rfl, rfl, rfl, wt⟩ := open_int Try.underlying3 (hval 3 3 v3 rfl rfl) h3
  obtain ⟨x, rfl⟩ := instr_of (hval 4 27 v4 rfl rfl) h4
  clear hA0 hval0
  simp only [List.append_nil] at hW'
  have hlt : ∀ y ∈ p0 ++ (p1 ++ (p2 ++ ([] ++ p4))), y.block < W.heap.size := fun y hy => by simpa using hW'.lt y hy
  obtain ⟨X0, s0, m0⟩ := src3_of h0
  obtain ⟨X1, s1, m1⟩ := src17_of h1
  obtain ⟨X2, s2, m2⟩ := src1_of h2
  refine (insert_any a0 n0 c0 a1 n1 c1 a2 n2 c2 t x X0 X1 X2 W s0 s1 s2 m0 m1 m2 (bounds wt).1 (bounds wt).2).mono fun e W' ⟨he, hb⟩ => ?_
  subst he
  refine ⟨_, rfl, _, _, _, [], p0 ++ (p1 ++ (p2 ++ ([] ++ (p4 ++ [])))), [], hW', ?_, ?_, rfl, hb.frame _, fun h => by cases h⟩
  · exact trodAll_cons_mk (shut_bool Try.underlying4 _) trodAll_mk0
  · exact trodAll_cons_mk (Below.trod laidOut (by kernel_rfl) (of_decide_eq_true (by kernel_rfl)) h0 hb (fun y hy => hlt y (by simp [hy])))
      (trodAll_cons_mk (Below.trod laidOut (by kernel_rfl) (of_decide_eq_true (by kernel_rfl)) h1 hb (fun y hy => hlt y (by simp [hy])))
        (trodAll_cons_mk (Below.trod laidOut (by kernel_rfl) (of_decide_eq_true (by kernel_rfl)) h2 hb (fun y hy => hlt y (by simp [hy])))
          (trodAll_cons_mk (shut_int Try.underlying3 wt)
            (trodAll_cons_mk (Below.trod laidOut (by kernel_rfl) (of_decide_eq_true (by kernel_rfl)) h4 hb (fun y hy => hlt y (by simp [hy]))) trodAll_mk0))))

theorem over : Rows.fnFiguresInsertOneInstructionRow.holds Try.pinned (OpenSpec.ofChange Rows.fnFiguresInsertOneInstructionSpec) :=
  OpenClaim.holds_of_wide 3 Try.f3 rfl rfl rfl rfl rfl rfl rfl ⟨rfl, rfl, rfl, rfl, rfl⟩ rfl rfl rfl rfl rfl (by kernel_rfl) Try.func3 (by kernel_rfl)
    (of_decide_eq_true (by kernel_rfl)) (by unfold Func.isWrapper; first | (rw [if_pos (by decide +kernel)]; kernel_rfl) | (rw [if_neg (by decide +kernel)]; exact ⟨rfl, rfl⟩))
    (fun os started H enc _ => lifted os started H enc)

/-- THE STATEMENT. -/
theorem proved : Rows.FnFiguresInsertOneInstructionSaid :=
  over
end Go.Proofs.Qxb6613741a.fnFiguresInsertOneInstruction
