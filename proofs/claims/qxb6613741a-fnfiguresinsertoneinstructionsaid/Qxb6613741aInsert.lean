/-
  FnFiguresInsertOneInstruction: the law, walked.
-/
import Derived.Test.Qxb6613741aJourney
import Derived.Test.Qxb6613741aPush
import Derived.Test.Qxb6613741aBytesA
namespace Go.Proofs.Qxb6613741a
open Go.RowKit
attribute [local go_sem] instr17_length row17_length row16_length

theorem size27 : (Try.prog.info? 27).map (·.size) = some 17 := by kernel_rfl

theorem extra_at (w : World) (x : Nat → Int) : (w.alloc (.cells (instr17 x).toArray 27)).rangeAt w.heap.size 0 (instr17 x) := by
  intro j v hj
  rw [Nat.zero_add]
  have : (w.alloc (.cells (instr17 x).toArray 27)).cell? ⟨w.heap.size, j, none⟩ = (instr17 x).toArray[j]? := by simp
  rw [this]
  simpa using hj

set_option maxRecDepth 100000 in
set_option maxHeartbeats 6000000 in
theorem insert_any (a0 : Option Addr) (p c0 : Nat) (a1 : Option Addr) (n c1 : Nat) (a2 : Option Addr) (h c2 : Nat) (t : Int) (x : Nat → Int) (X0 X1 : Nat → Nat → Int) (X2 : Nat → Int) (w : World)
    (s0 : Src3 w a0 p X0) (s1 : Src17 w a1 n X1) (s2 : Src1 w a2 h X2) (hp : p ≤ maxLen) (hn : n ≤ maxLen) (hh : h ≤ maxLen) (ht0 : -9223372036854775808 ≤ t) (ht1 : t ≤ 9223372036854775807) :
    Calls Try.prog 3 #[.slice a0 p c0, .slice a1 n c1, .slice a2 h c2, .int .i64 t, .agg (instr17 x).toArray] w fun e w' => e = .returned (.bool true) ∧ Below w.heap.size w w' := by
  have hb0 : Below w.heap.size w (w.alloc (.cells (instr17 x).toArray 27)) := (Below.refl _ _).alloc (Nat.le_refl _) _
  have hx0 := extra_at w x
  have hB := bytesA_any a0 p c0 a1 n c1 a2 h c2 t x (w.alloc (.cells (instr17 x).toArray 27)) hp hn hh
  have HS : Hid (Src3 w a0 p X0 ∧ Src17 w a1 n X1 ∧ Src1 w a2 h X2) := ⟨s0, s1, s2⟩
  have HL : Hid (p ≤ maxLen ∧ n ≤ maxLen ∧ h ≤ maxLen) := ⟨hp, hn, hh⟩
  unfold maxLen at hp hn hh
  clear s0 s1 s2
  go_enter Try.func3, Try.ntmps3
  go_wp2_with (first | (refine wpList_load_mid rfl 27 (.tmp 9) rfl w.heap.size 0 rfl (instr17 x) _ hx0 Try.underlying27 rfl size27 ?_))
  refine hB.mono ?_
  rintro e v1 ⟨b, rfl, hb1⟩
  have hw1 : Below w.heap.size w v1 := hb0.trans (hb1.mono hb0.size)
  have hz1 : w.heap.size < v1.heap.size := by have := hb1.size; simp at this; omega
  have HX1 : Hid (v1.rangeAt w.heap.size 0 (instr17 x)) := fun j v hj => (hb1.cell (by simp)).trans (hx0 j v hj)
  clear hB hb1 hx0 hb0
  cases b with
  | false =>
    go_wp2_with fail
    go_ret
    exact ⟨rfl, hw1⟩
  | true =>
    go_wp2_with fail
    refine (figBytes_any a0 p c0 a1 n c1 a2 h c2 v1 HL.out.1 HL.out.2.1 HL.out.2.2).mono ?_
    rintro e w1 ⟨z, rfl, rfl, hz⟩
    by_cases hbig : 1048576 < z
    · clear hz
      go_wp2_with fail
      go_ret
      exact ⟨rfl, hw1⟩
    have hlen := hz (by omega)
    clear hz
    by_cases hneg : t < 0
    · go_wp2_with fail
      go_ret
      exact ⟨rfl, hw1⟩
    by_cases hgt : (n : Int) < t
    · go_wp2_with fail
      go_ret
      exact ⟨rfl, hw1⟩
    obtain ⟨m, rfl⟩ := Int.eq_ofNat_of_zero_le (show 0 ≤ t by omega)
    have hmn : m ≤ n := by omega
    clear hneg hgt ht0 ht1 hp hn hh
    have hI := instrs_any a1 n c1 X1 w1 (HS.out.2.1.below hw1) (by omega)
    go_wp2_with fail
    refine hI.mono ?_
    rintro e w2 ⟨ad, c, rfl, hb2, hgood⟩
    have HG2 : Hid (0 < n → ∃ g, ad = some ⟨g, 0, none⟩ ∧ g < w2.heap.size ∧ Good w2 g (n * 17)) := fun hpos => by
      obtain ⟨g, h1, _, h2, h3⟩ := hgood hpos
      exact ⟨g, h1, h2, h3⟩
    have hw2 : Below w.heap.size w w2 := hw1.trans (hb2.mono hw1.size)
    have HX2 : Hid (w2.rangeAt w.heap.size 0 (instr17 x)) := fun j v hj => (hb2.cell (by exact hz1)).trans (HX1.out j v hj)
    have hz2 : w.heap.size < w2.heap.size := Nat.lt_of_lt_of_le hz1 hb2.size
    clear hI hgood hb2 hw1 HX1 hz1
    obtain ⟨i0, hi, hi0, hi1, hi2⟩ := info_parts zero34
    have HI : Hid (Try.prog.info? 34 = some i0 ∧ i0.zero = some zero17 ∧ i0.size = 17 ∧ i0.bytes = 17) := ⟨hi, hi0, hi1, hi2⟩
    clear hi hi0 hi1 hi2
    go_wp2_with (first
      | (at_make; refine wpList_make_own _ rfl (.const (.int .i64 0)) (.tmp 46) 30 rfl w2.heap.size 34 i0 zero17 17 Try.underlying30 HI.out.1 HI.out.2.1 HI.out.2.2.1 .i64 .i64 _ (n + 1) rfl rfl (by omega) ?b2 ?b3 ?b4 ?_))
    case b2 => rw [HI.out.2.2.2]; omega
    case b3 => unfold maxLen; omega
    case b4 => exact Nat.le_refl _
    intro w3 hown hgrow
    have hb3 : Below w2.heap.size w2 w3 := (Below.refl _ _).grown hgrow (Nat.le_refl _) (fun k hk => by cases hk)
    clear hgrow
    go_wp2_with fail
    go_loopw [13, 14] (fun v j wr => ∃ (k : Nat) (xs : List Value), k ≤ m ∧ j = .int .i64 k ∧ v = .slice (some ⟨w2.heap.size, 0, none⟩) k (n + 1) ∧ Hid (wr.ownsRow w2.heap.size 34 17 (.slice (some ⟨w2.heap.size, 0, none⟩) k (n + 1)) k xs) ∧ Below w2.heap.size w2 wr) (fun _ j _ => m - (intOf j).toNat)
    case atStart => exact ⟨0, [], Nat.zero_le _, rfl, rfl, hown, hb3⟩
    case round =>
      clear hown hb3
      obtain ⟨k, xs, hk, rfl, rfl, HO, hnx⟩ := hrel
      by_cases hlt : k < m
      · obtain ⟨g, rfl, hg2, hgood⟩ := HG2.out (by omega)
        obtain ⟨f, hf, hf1⟩ := (hgood.below hnx hg2).row (k * 17) (by omega)
        clear hgood
        have hkn : (k : Int) < (n : Int) := by omega
        have hk0 : (0 : Int) ≤ (k : Int) := by omega
        go_wp2_with (first
          | ((with_reducible refine wpList_load_mid ?g1 34 (.tmp 56) ?g2 g (k * 17) ?g3 (row17 f) _ hf Try.underlying34 ?g4 (size34r f) ?g5); (case g2 => exact rfl); (case g1 => exact rfl); (case g3 => exact rfl); (case g4 => exact rfl))
          | ((with_reducible refine wpList_slice17 ?k1 (.tmp 57) ?k2 f ?k3 ?k4); (case k2 => exact rfl); (case k1 => exact rfl); (case k3 => exact rfl))
          | (at_builtin; refine wpList_append_fits _ rfl (.tmp 53) (.tmp 58) 30 rfl w2.heap.size 34 i0 17 Try.underlying30 HI.out.1 HI.out.2.2.1 w2.heap.size k (n + 1) xs rfl (HO.out.alloc _) ⟨wr.heap.size, 0, none⟩ 1 1 (row17 f) rfl rfl (new17 wr f) hf1 (by omega) ?_))
        intro w4 hown4 hgrow4
        have HO4 : Hid (w4.ownsRow w2.heap.size 34 17 (.slice (some ⟨w2.heap.size, 0, none⟩) (k + 1) (n + 1)) (k + 1) (xs ++ row17 f)) := hown4
        have hb4 : Below w2.heap.size w2 w4 := (hnx.alloc hnx.size _).grown hgrow4 (by have := hnx.size; simp; omega) (fun j hj => by cases hj; exact Nat.le_refl _)
        clear hown4 hgrow4 HO hnx hf hf1
        go_wp2_with fail
        go_roundw
        case rel => exact ⟨k + 1, xs ++ row17 f, by omega, by go_num, rfl, HO4, hb4⟩
        case measure => simp [intOf]; omega
      · have hkm : k = m := by omega
        subst hkm
        have e0 : wr.cell? ⟨w.heap.size, 0, none⟩ = some (.int .u8 (x 0)) := (hnx.cell (by exact hz2)).trans (HX2.out 0 _ rfl)
        have hr1 : wr.rangeAt w.heap.size 1 (row16 x) := by
          intro j v hj
          obtain ⟨h16, rfl⟩ := row16_at _ j v hj
          have := HX2.out (1 + j) (.int .u8 (x (1 + j))) (by show (row17 _)[1 + j]? = _; rw [row17_eq, List.getElem?_map, List.getElem?_range (by omega)]; rfl)
          rw [Nat.zero_add] at this
          exact (hnx.cell (by exact hz2)).trans this
        go_wp2_with (first
          | ((with_reducible refine wpList_load_mid ?xg1 25 (.tmp 63) ?xg2 w.heap.size 1 ?xg3 (row16 x) _ hr1 Try.underlying25 ?xg4 (size25r x) ?xg5); (case xg2 => exact rfl); (case xg1 => exact rfl); (case xg3 => exact rfl); (case xg4 => exact rfl))
          | ((with_reducible refine wpList_instr17 ?xl1 (.tmp 62) (.tmp 64) ?xl2 x ?xl3 ?xl4 ?xl5); (case xl2 => exact rfl); (case xl1 => exact rfl); (case xl3 => exact rfl); (case xl4 => exact rfl))
          | ((with_reducible refine wpList_slice17 ?xk1 (.tmp 65) ?xk2 (fun j => .int .u8 (x j)) ?xk3 ?xk4); (case xk2 => exact rfl); (case xk1 => exact rfl); (case xk3 => exact rfl))
          | (at_builtin; refine wpList_append_fits _ rfl (.tmp 60) (.tmp 66) 30 rfl w2.heap.size 34 i0 17 Try.underlying30 HI.out.1 HI.out.2.2.1 w2.heap.size k (n + 1) xs rfl (HO.out.alloc _) ⟨wr.heap.size, 0, none⟩ 1 1 (instr17 x) rfl rfl (new17 wr fun j => .int .u8 (x j)) (instr17_one x) (by omega) ?_))
        intro w5 hown5 hgrow5
        have HO5 : Hid (w5.ownsRow w2.heap.size 34 17 (.slice (some ⟨w2.heap.size, 0, none⟩) (k + 1) (n + 1)) (k + 1) (xs ++ instr17 x)) := hown5
        have hb5 : Below w2.heap.size w2 w5 := (hnx.alloc hnx.size _).grown hgrow5 (by have := hnx.size; simp; omega) (fun j hj => by cases hj; exact Nat.le_refl _)
        clear hown5 hgrow5 HO hnx e0 hr1
        go_wp2_with fail
        go_loopw [13, 15] (fun v j wr => ∃ (i : Nat) (xs : List Value), i ≤ n ∧ j = .int .i64 i ∧ v = .slice (some ⟨w2.heap.size, 0, none⟩) (i + 1) (n + 1) ∧ Hid (wr.ownsRow w2.heap.size 34 17 (.slice (some ⟨w2.heap.size, 0, none⟩) (i + 1) (n + 1)) (i + 1) xs) ∧ Below w2.heap.size w2 wr) (fun _ j _ => n - (intOf j).toNat)
        case atStart => exact ⟨k, xs ++ instr17 x, by omega, rfl, rfl, HO5, hb5⟩
        case round =>
          clear HO5 hb5
          obtain ⟨i, ys, hi, rfl, rfl, HO, hnx⟩ := hrel
          by_cases hlt2 : i < n
          · obtain ⟨g, rfl, hg2, hgood⟩ := HG2.out (by omega)
            obtain ⟨f, hf, hf1⟩ := (hgood.below hnx hg2).row (i * 17) (by omega)
            clear hgood
            have hin : (i : Int) < (n : Int) := by omega
            have hi0 : (0 : Int) ≤ (i : Int) := by omega
            go_wp2_with (first
              | ((with_reducible refine wpList_load_mid ?rg1 34 (.tmp 77) ?rg2 g (i * 17) ?rg3 (row17 f) _ hf Try.underlying34 ?rg4 (size34r f) ?rg5); (case rg2 => exact rfl); (case rg1 => exact rfl); (case rg3 => exact rfl); (case rg4 => exact rfl))
              | ((with_reducible refine wpList_slice17 ?rk1 (.tmp 78) ?rk2 f ?rk3 ?rk4); (case rk2 => exact rfl); (case rk1 => exact rfl); (case rk3 => exact rfl))
              | (at_builtin; refine wpList_append_fits _ rfl (.tmp 74) (.tmp 79) 30 rfl w2.heap.size 34 i0 17 Try.underlying30 HI.out.1 HI.out.2.2.1 w2.heap.size (i + 1) (n + 1) ys rfl (HO.out.alloc _) ⟨wr.heap.size, 0, none⟩ 1 1 (row17 f) rfl rfl (new17 wr f) hf1 (by omega) ?_))
            intro w4 hown4 hgrow4
            have HO4 : Hid (w4.ownsRow w2.heap.size 34 17 (.slice (some ⟨w2.heap.size, 0, none⟩) (i + 1 + 1) (n + 1)) (i + 1 + 1) (ys ++ row17 f)) := hown4
            have hb4 : Below w2.heap.size w2 w4 := (hnx.alloc hnx.size _).grown hgrow4 (by have := hnx.size; simp; omega) (fun j hj => by cases hj; exact Nat.le_refl _)
            clear hown4 hgrow4 HO hnx hf hf1
            go_wp2_with fail
            go_roundw
            case rel => exact ⟨i + 1, ys ++ row17 f, by omega, by go_num, rfl, HO4, hb4⟩
            case measure => simp [intOf]; omega
          · have hin : n = i := by omega
            subst hin
            have hwr : Below w.heap.size w wr := hw2.trans (hnx.mono (Nat.le_of_lt hz2))
            clear HO hnx HG2 HX2 hw2
            have hA1 := addrs_any a0 p c0 X0 wr (HS.out.1.below hwr) (by omega)
            go_wp2_with fail
            refine hA1.mono ?_
            rintro e u1 ⟨ad1, e1, rfl, hbA⟩
            clear hA1
            have hu1 : Below w.heap.size w u1 := hwr.trans (hbA.mono hwr.size)
            clear hbA hwr
            have hC1 := clone_any a2 h c2 X2 u1 (HS.out.2.2.below hu1) (by omega)
            go_wp2_with fail
            refine hC1.mono ?_
            rintro e u2 ⟨ad2, e2, rfl, hbC⟩
            clear hC1
            have hu2 : Below w.heap.size w (u2.alloc (jObj (.slice ad1 p e1) (.slice ad n c) (.slice ad2 h e2))) := (hu1.trans (hbC.mono hu1.size)).alloc (hu1.trans (hbC.mono hu1.size)).size _
            have HJ : Hid (JAt (u2.alloc (jObj (.slice ad1 p e1) (.slice ad n c) (.slice ad2 h e2))) u2.heap.size (.slice ad1 p e1) (.slice ad n c) (.slice ad2 h e2)) := jAt _ _ _ _
            clear hbC hu1
            have hA2 := addrs_any a0 p c0 X0 _ (HS.out.1.below hu2) (by omega)
            go_wp2_with fail
            refine hA2.mono ?_
            rintro e u3 ⟨ad3, e3, rfl, hbA⟩
            clear hA2
            have hu3 : Below w.heap.size w u3 := hu2.trans (hbA.mono hu2.size)
            have HJ3 : Hid (JAt u3 u2.heap.size (.slice ad1 p e1) (.slice ad n c) (.slice ad2 h e2)) := HJ.out.below hbA
            have hz3 : u2.heap.size < u3.heap.size := by have := hbA.size; simp at this; omega
            clear hbA hu2 HJ
            have hC2 := clone_any a2 h c2 X2 u3 (HS.out.2.2.below hu3) (by omega)
            go_wp2_with fail
            refine hC2.mono ?_
            rintro e u4 ⟨ad4, e4, rfl, hbC⟩
            clear hC2
            have hu4 : Below w.heap.size w (u4.alloc (jObj (.slice ad3 p e3) (.slice (some ⟨w2.heap.size, 0, none⟩) (n + 1) (n + 1)) (.slice ad4 h e4))) := (hu3.trans (hbC.mono hu3.size)).alloc (hu3.trans (hbC.mono hu3.size)).size _
            have HJ4 : Hid (JAt (u4.alloc (jObj (.slice ad3 p e3) (.slice (some ⟨w2.heap.size, 0, none⟩) (n + 1) (n + 1)) (.slice ad4 h e4))) u2.heap.size (.slice ad1 p e1) (.slice ad n c) (.slice ad2 h e2)) := (HJ3.out.below hbC).below ((Below.refl _ _).alloc (Nat.le_refl _) _)
            have HK : Hid (JAt (u4.alloc (jObj (.slice ad3 p e3) (.slice (some ⟨w2.heap.size, 0, none⟩) (n + 1) (n + 1)) (.slice ad4 h e4))) u4.heap.size (.slice ad3 p e3) (.slice (some ⟨w2.heap.size, 0, none⟩) (n + 1) (n + 1)) (.slice ad4 h e4)) := jAt _ _ _ _
            clear hbC hu3 HJ3 hz3
            have hF1 := figures_any u2.heap.size ad1 p e1 ad n c ad2 h e2 _ HJ4.out.1 HJ4.out.2.1 HJ4.out.2.2 (by omega) (by omega)
            go_wp2_with fail
            refine hF1.mono ?_
            rintro e u5 ⟨rfl, hb5⟩
            clear hF1 HJ4
            have hst := fig_step n
            have hbd1 := fig_bounds (segsOf n) (by have := segsOf_le n; omega)
            have hF2 := fun W k0 k1 k2 => figures_any u4.heap.size ad3 p e3 (some ⟨w2.heap.size, 0, none⟩) (n + 1) (n + 1) ad4 h e4 W k0 k1 k2 (by omega) (by omega)
            generalize hlOf (segsOf n) = A1 at *
            generalize chOf (segsOf n) = B1 at *
            have hbd2 := fig_bounds (segsOf (n + 1)) (by have := segsOf_le (n + 1); omega)
            generalize hlOf (segsOf (n + 1)) = A2 at *
            generalize chOf (segsOf (n + 1)) = B2 at *
            have HST : Hid (A2 = A1 + (if 2 ≤ n then 16 else 0) ∧ B2 = B1 + (if 2 ≤ n ∧ ((n : Int) - 1) % 6 = 0 then 16 else 0)) := hst
            clear hst
            have hu5 : Below w.heap.size w (u5.alloc (fObj ((p : Int) - 1) n h A1 B1)) := (hu4.trans (hb5.mono hu4.size)).alloc (hu4.trans (hb5.mono hu4.size)).size _
            have HK5 : Hid (JAt (u5.alloc (fObj ((p : Int) - 1) n h A1 B1)) u4.heap.size (.slice ad3 p e3) (.slice (some ⟨w2.heap.size, 0, none⟩) (n + 1) (n + 1)) (.slice ad4 h e4)) := (HK.out.below hb5).below ((Below.refl _ _).alloc (Nat.le_refl _) _)
            have hF3 := hF2 _ HK5.out.1 HK5.out.2.1 HK5.out.2.2
            clear hF2 hb5 hu4 HK HK5
            go_wp2_with fail
            refine hF3.mono ?_
            rintro e u6 ⟨rfl, hb6⟩
            clear hF3
            have hu6 : Below w.heap.size w u6 := hu5.trans (hb6.mono hu5.size)
            obtain ⟨g0, g1, g2, g3, g4, hz6⟩ := fAt hb6
            clear hb6 hu5 HS HL HI
            obtain ⟨l1, l2, l3, l4⟩ := hbd1
            obtain ⟨m1, m2, m3, m4⟩ := hbd2
            by_cases hn2 : 2 ≤ n
            · by_cases h6 : ((n : Int) - 1) % 6 = 0
              · have r1 : A1 + 16 ≤ A2 ∧ A2 ≤ A1 + 16 ∧ B1 + 16 ≤ B2 ∧ B2 ≤ B1 + 16 := by
                  obtain ⟨x1, x2⟩ := HST.out
                  rw [if_pos hn2] at x1
                  rw [if_pos ⟨hn2, h6⟩] at x2
                  omega
                obtain ⟨r1, r2, r3, r4⟩ := r1
                clear HST
                go_wp2_with fail
                go_ret
                exact ⟨ret_bool (b := B2 - B1 == 16) (beq_iff_eq.2 (by omega)), hu6.alloc hu6.size _⟩
              · have r1 : A1 + 16 ≤ A2 ∧ A2 ≤ A1 + 16 ∧ B1 ≤ B2 ∧ B2 ≤ B1 := by
                  obtain ⟨x1, x2⟩ := HST.out
                  rw [if_pos hn2] at x1
                  rw [if_neg (fun h => h6 h.2)] at x2
                  omega
                obtain ⟨r1, r2, r3, r4⟩ := r1
                clear HST
                go_wp2_with fail
                go_ret
                exact ⟨ret_bool (b := B2 - B1 == 0) (beq_iff_eq.2 (by omega)), hu6.alloc hu6.size _⟩
            · have r1 : A1 ≤ A2 ∧ A2 ≤ A1 ∧ B1 ≤ B2 ∧ B2 ≤ B1 := by
                obtain ⟨x1, x2⟩ := HST.out
                rw [if_neg hn2] at x1
                rw [if_neg (fun h => hn2 h.1)] at x2
                omega
              obtain ⟨r1, r2, r3, r4⟩ := r1
              clear HST
              go_wp2_with fail
              go_ret
              exact ⟨ret_bool (b := B2 - B1 == 0) (beq_iff_eq.2 (by omega)), hu6.alloc hu6.size _⟩
end Go.Proofs.Qxb6613741a
