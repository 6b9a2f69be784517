/-
  FnFiguresCountLengthsAlone: the law, walked.
-/
import Derived.Test.Qxb6613741aJourney
import Derived.Test.Qxb6613741aBytesB
namespace Go.Proofs.Qxb6613741a
open Go.RowKit

/-- The segments, and what the two headers hold of them. -/
theorem fig_all (i : Nat) (S A B : Int) (hS : S = segsOf i) (hA : A = hlOf (segsOf i)) (hB : B = chOf (segsOf i)) :
    (i < 2 → S = 1) ∧ (2 ≤ i → S = (i : Int) - 1) ∧ A = 8 + 16 * (S + 1) ∧ ∃ q : Int, B = 24 + 16 * q ∧ 1 ≤ q ∧ S ≤ 6 * q ∧ 6 * q < S + 6 ∧ q ≤ S := by
  have h1 := segsOf_le i
  refine ⟨fun h => ?_, fun h => ?_, ?_, ((segsOf i : Int) + 5) / 6, ?_, ?_, ?_, ?_, ?_⟩
  · rw [hS]; unfold segsOf; rw [if_pos (by omega)]; rfl
  · rw [hS]; unfold segsOf; split <;> omega
  · rw [hA, hS]; rfl
  · rw [hB]; unfold chOf; omega
  all_goals omega

set_option maxRecDepth 100000 in
set_option maxHeartbeats 6000000 in
theorem count_any (a0 : Option Addr) (p c0 : Nat) (a1 : Option Addr) (n c1 : Nat) (a2 : Option Addr) (h c2 : Nat) (a3 : Option Addr) (p' c3 : Nat) (a4 : Option Addr) (n' c4 : Nat) (a5 : Option Addr) (h' c5 : Nat)
    (X0 X1 : Nat → Nat → Int) (X2 : Nat → Int) (X3 X4 : Nat → Nat → Int) (X5 : Nat → Int) (w : World)
    (s0 : Src3 w a0 p X0) (s1 : Src17 w a1 n X1) (s2 : Src1 w a2 h X2) (s3 : Src3 w a3 p' X3) (s4 : Src17 w a4 n' X4) (s5 : Src1 w a5 h' X5)
    (hp : p ≤ maxLen) (hn : n ≤ maxLen) (hh : h ≤ maxLen) (hp' : p' ≤ maxLen) (hn' : n' ≤ maxLen) (hh' : h' ≤ maxLen) :
    Calls Try.prog 4 #[.slice a0 p c0, .slice a1 n c1, .slice a2 h c2, .slice a3 p' c3, .slice a4 n' c4, .slice a5 h' c5] w fun e w' => e = .returned (.bool true) ∧ Below w.heap.size w w' := by
  have hB := bytesB_any a0 p c0 a1 n c1 a2 h c2 a3 p' c3 a4 n' c4 a5 h' c5 w hp hn hh hp' hn' hh'
  have HS : Hid (Src3 w a0 p X0 ∧ Src17 w a1 n X1 ∧ Src1 w a2 h X2) := ⟨s0, s1, s2⟩
  have HT : Hid (Src3 w a3 p' X3 ∧ Src17 w a4 n' X4 ∧ Src1 w a5 h' X5) := ⟨s3, s4, s5⟩
  have HL : Hid (p ≤ maxLen ∧ n ≤ maxLen ∧ h ≤ maxLen) := ⟨hp, hn, hh⟩
  have HM : Hid (p' ≤ maxLen ∧ n' ≤ maxLen ∧ h' ≤ maxLen) := ⟨hp', hn', hh'⟩
  unfold maxLen at hp hn hh hp' hn' hh'
  clear s0 s1 s2 s3 s4 s5
  go_enter Try.func4, Try.ntmps4
  go_wp2_with fail
  refine hB.mono ?_
  rintro e w1 ⟨b, rfl, hw1⟩
  clear hB
  subst hw1
  cases b with
  | false =>
    go_wp2_with fail
    go_ret
    exact ⟨rfl, Below.refl _ _⟩
  | true =>
    go_wp2_with fail
    refine (figBytes_any a0 p c0 a1 n c1 a2 h c2 w1 HL.out.1 HL.out.2.1 HL.out.2.2).mono ?_
    rintro e w2 ⟨z, rfl, hw2, hz⟩
    subst hw2
    by_cases hbig : 1048576 < z
    · clear hz
      go_wp2_with fail
      go_ret
      exact ⟨rfl, Below.refl _ _⟩
    have hlen := hz (by omega)
    clear hz
    go_wp2_with fail
    refine (figBytes_any a3 p' c3 a4 n' c4 a5 h' c5 w2 HM.out.1 HM.out.2.1 HM.out.2.2).mono ?_
    rintro e w3 ⟨z', rfl, hw3, hz'⟩
    subst hw3
    by_cases hbig' : 1048576 < z'
    · clear hz'
      go_wp2_with fail
      go_ret
      exact ⟨rfl, Below.refl _ _⟩
    clear hz'
    by_cases nep : ¬ p' = p
    · have ep2 : ¬ (p' : Int) = (p : Int) := by omega
      go_wp2_with fail
      go_ret
      exact ⟨rfl, Below.refl _ _⟩
    have ep : p' = p := by omega
    clear nep
    by_cases nen : ¬ n' = n
    · have en2 : ¬ (n' : Int) = (n : Int) := by omega
      subst ep
      go_wp2_with fail
      go_ret
      exact ⟨rfl, Below.refl _ _⟩
    have en : n' = n := by omega
    clear nen
    by_cases neh : ¬ h' = h
    · have eh2 : ¬ (h' : Int) = (h : Int) := by omega
      subst ep en
      go_wp2_with fail
      go_ret
      exact ⟨rfl, Below.refl _ _⟩
    have eh : h' = h := by omega
    clear neh
    subst ep en eh
    clear hp hn hh hp' hn' hh' HL HM
    have hA1 := addrs_any a0 p' c0 X0 w3 HS.out.1 (by omega)
    go_wp2_with fail
    clear hbig hbig'
    refine hA1.mono ?_
    rintro e u1 ⟨ad1, e1, rfl, hbA⟩
    clear hA1
    have hu1 : Below w3.heap.size w3 u1 := hbA
    clear hbA
    have hI1 := instrs_any a1 n' c1 X1 u1 (HS.out.2.1.below hu1) (by omega)
    go_wp2_with fail
    refine hI1.mono ?_
    rintro e u2 ⟨ad2, e2, rfl, hbI, hgd⟩
    clear hI1 hgd
    have hu2 : Below w3.heap.size w3 u2 := hu1.trans (hbI.mono hu1.size)
    clear hbI hu1
    have hC1 := clone_any a2 h' c2 X2 u2 (HS.out.2.2.below hu2) (by omega)
    go_wp2_with fail
    refine hC1.mono ?_
    rintro e u3 ⟨ad3, e3, rfl, hbC⟩
    clear hC1 HS
    have hu3 : Below w3.heap.size w3 (u3.alloc (jObj (.slice ad1 p' e1) (.slice ad2 n' e2) (.slice ad3 h' e3))) := (hu2.trans (hbC.mono hu2.size)).alloc (hu2.trans (hbC.mono hu2.size)).size _
    have HJ : Hid (JAt (u3.alloc (jObj (.slice ad1 p' e1) (.slice ad2 n' e2) (.slice ad3 h' e3))) u3.heap.size (.slice ad1 p' e1) (.slice ad2 n' e2) (.slice ad3 h' e3)) := jAt _ _ _ _
    clear hbC hu2
    have hA2 := addrs_any a3 p' c3 X3 _ (HT.out.1.below hu3) (by omega)
    go_wp2_with fail
    refine hA2.mono ?_
    rintro e u4 ⟨ad4, e4, rfl, hbA⟩
    clear hA2
    have hu4 : Below w3.heap.size w3 u4 := hu3.trans (hbA.mono hu3.size)
    have HJ4 : Hid (JAt u4 u3.heap.size (.slice ad1 p' e1) (.slice ad2 n' e2) (.slice ad3 h' e3)) := HJ.out.below hbA
    clear hbA hu3 HJ
    have hI2 := instrs_any a4 n' c4 X4 u4 (HT.out.2.1.below hu4) (by omega)
    go_wp2_with fail
    refine hI2.mono ?_
    rintro e u5 ⟨ad5, e5, rfl, hbI, hgd⟩
    clear hI2 hgd
    have hu5 : Below w3.heap.size w3 u5 := hu4.trans (hbI.mono hu4.size)
    have HJ5 : Hid (JAt u5 u3.heap.size (.slice ad1 p' e1) (.slice ad2 n' e2) (.slice ad3 h' e3)) := HJ4.out.below hbI
    clear hbI hu4 HJ4
    have hC2 := clone_any a5 h' c5 X5 u5 (HT.out.2.2.below hu5) (by omega)
    go_wp2_with fail
    refine hC2.mono ?_
    rintro e u6 ⟨ad6, e6, rfl, hbC⟩
    clear hC2 HT
    have hu6 : Below w3.heap.size w3 (u6.alloc (jObj (.slice ad4 p' e4) (.slice ad5 n' e5) (.slice ad6 h' e6))) := (hu5.trans (hbC.mono hu5.size)).alloc (hu5.trans (hbC.mono hu5.size)).size _
    have HJ6 : Hid (JAt (u6.alloc (jObj (.slice ad4 p' e4) (.slice ad5 n' e5) (.slice ad6 h' e6))) u3.heap.size (.slice ad1 p' e1) (.slice ad2 n' e2) (.slice ad3 h' e3)) := (HJ5.out.below hbC).below ((Below.refl _ _).alloc (Nat.le_refl _) _)
    have HK : Hid (JAt (u6.alloc (jObj (.slice ad4 p' e4) (.slice ad5 n' e5) (.slice ad6 h' e6))) u6.heap.size (.slice ad4 p' e4) (.slice ad5 n' e5) (.slice ad6 h' e6)) := jAt _ _ _ _
    clear hbC hu5 HJ5
    have hF1 := figures_any u3.heap.size ad1 p' e1 ad2 n' e2 ad3 h' e3 _ HJ6.out.1 HJ6.out.2.1 HJ6.out.2.2 (by omega) (by omega)
    go_wp2_with fail
    refine hF1.mono ?_
    rintro e u7 ⟨rfl, hb7⟩
    clear hF1 HJ6
    have hall := fig_all n' _ _ _ rfl rfl rfl
    have hbd := segsOf_le n'
    have hF2 := fun W k0 k1 k2 => figures_any u6.heap.size ad4 p' e4 ad5 n' e5 ad6 h' e6 W k0 k1 k2 (by omega) (by omega)
    generalize hlOf (segsOf n') = A at *
    generalize chOf (segsOf n') = B at *
    generalize hSn : ((segsOf n' : Nat) : Int) = S at *
    have hS1 : 1 ≤ S ∧ S ≤ 1048577 := by omega
    clear hSn hbd
    have HALL := (show Hid _ from hall)
    clear hall
    have hu7 : Below w3.heap.size w3 (u7.alloc (fObj ((p' : Int) - 1) n' h' A B)) := (hu6.trans (hb7.mono hu6.size)).alloc (hu6.trans (hb7.mono hu6.size)).size _
    have HK7 : Hid (JAt (u7.alloc (fObj ((p' : Int) - 1) n' h' A B)) u6.heap.size (.slice ad4 p' e4) (.slice ad5 n' e5) (.slice ad6 h' e6)) := (HK.out.below hb7).below ((Below.refl _ _).alloc (Nat.le_refl _) _)
    have hF3 := hF2 _ HK7.out.1 HK7.out.2.1 HK7.out.2.2
    clear hF2 hb7 hu6 HK HK7
    go_wp2_with fail
    refine hF3.mono ?_
    rintro e u8 ⟨rfl, hb8⟩
    clear hF3
    have hu8 : Below w3.heap.size w3 u8 := hu7.trans (hb8.mono hu7.size)
    obtain ⟨g0, g1, g2, g3, g4, hz8⟩ := fAt hb8
    clear hb8 hu7
    obtain ⟨t1, t2, t3, q, t4, t5, t6, t7, t8⟩ := HALL.out
    clear HALL
    subst t3 t4
    by_cases hn2 : n' < 2
    · have hS := t1 hn2
      have hq : q = 1 := by omega
      clear t1 t2
      subst hS hq
      clear t5 t6 t7 t8 hS1
      go_wp2_with fail
      all_goals
        go_ret
        exact ⟨rfl, hu8.alloc hu8.size _⟩
    · have hS := t2 (by omega)
      clear t1 t2
      subst hS
      clear hS1
      have hq16 : ((24 + 16 * q - 24) % 16 != 0) = false := by
        rw [show (24 + 16 * q - 24) % 16 = 0 by omega]; rfl
      go_wp2_with fail
      go_ret
      exact ⟨ret_bool (decide_eq_true (by omega)), hu8.alloc hu8.size _⟩
end Go.Proofs.Qxb6613741a
