/-
  THE WALK OF FnEncodeSplitsIntervalWithoutGap (4).
-/
import Derived.Test.Qxb6606424aMatch
namespace Go.Proofs.Qxb6606424a
open Go.ChangeShapes Go.WideShapes Go.ChangeAt Go.RowKit
open Coder
set_option linter.unusedVariables false

theorem inv_ok {L H lo hi : Int} {ds Z : List Int} (h : Inv L H ds lo hi) (hr : ∀ x ∈ Z, 0 ≤ x ∧ x ≤ 255) : ∀ x ∈ Z ++ ds, 0 ≤ x ∧ x ≤ 255 := by
  intro x hx
  rcases List.mem_append.mp hx with h' | h'
  · exact hr x h'
  · exact h.2.1 x h'

/-- The numbers of the law: the five widened ends, as letters. -/
theorem ends (lo hi X Y : Int) (l0 : 0 ≤ lo) (h1 : hi ≤ 4294967295) (x0 : lo ≤ X) (x1 : X < hi) (y0 : X ≤ Y) (y1 : Y < hi) :
    ∃ A B C D E : Int, lo * 4294967296 = A ∧ Hid (X * 4294967296 + 4294967295 = B) ∧ Hid ((X + 1) * 4294967296 = C) ∧ Hid (hi * 4294967296 + 4294967295 = D) ∧ Hid (Y * 4294967296 + 4294967295 = E) ∧
      0 ≤ A ∧ A ≤ B ∧ B + 1 = C ∧ C ≤ D ∧ B ≤ E ∧ D < 18446744073709551616 ∧ B < D ∧ 0 ≤ B ∧ bits .or .u64 (hi * 4294967296) 4294967295 = D :=
  ⟨_, _, _, _, _, rfl, rfl, rfl, rfl, rfl, by omega, by omega, by omega, by omega, by omega, by omega, by omega, by omega, u64_or32 _ _ (by omega) (by omega) (by omega) (by omega) (by omega)⟩

set_option maxRecDepth 100000 in
set_option maxHeartbeats 4000000 in
theorem split_keep (a0 : Int) (a1 : Int) (a2 : Option Addr) (len2 cap2 : Nat) (Z : List Int) (a3 : Int) (a4 : Int) (w : World) (u0 : 0 ≤ a0) (u1' : a1 ≤ 4294967295) (hle : ¬ a1 ≤ a0)
    (hp0 : ¬ a3 < 0) (hp1 : ¬ 4095 < a3) (hq0 : ¬ a4 < 0) (hq1 : ¬ 4095 < a4) (hpq : ¬ a4 < a3) (h16 : ¬ 65536 < (len2 : Int)) (hrow : RowB w a2 len2 Z) (hnil : a2 = none → len2 = 0 ∧ cap2 = 0) :
    Calls Try.prog 4 #[.int .u32 a0, .int .u32 a1, .slice a2 len2 cap2, .int .i32 a3, .int .i32 a4] w fun e w' => e = .returned (.bool true) ∧ Below w.heap.size w w' := by
  have hn : len2 ≤ 1048576 := by omega
  have HZ : Hid (Z.length = len2) := hrow.1
  have HR : Hid (∀ x ∈ Z, 0 ≤ x ∧ x ≤ 255) := hrow.2.1
  obtain ⟨x0, x1⟩ := mid_range a0 a1 a3 (by omega) (by omega) (by omega)
  obtain ⟨y0, y1⟩ := mid_range a0 a1 a4 (by omega) (by omega) (by omega)
  have xy := mid_mono a0 a1 a3 a4 (by omega) (by omega)
  have N1 : Hid (newLo a0 a1 1 a3 = a0 ∧ newHi a0 a1 1 a3 = mid a0 a1 a3) := ⟨by simp [newLo], by simp [newHi]⟩
  have N2 : Hid (newLo a0 a1 0 a3 = mid a0 a1 a3 + 1 ∧ newHi a0 a1 0 a3 = a1) := ⟨by simp [newLo], by simp [newHi]⟩
  have N3 : Hid (newLo a0 a1 1 a4 = a0 ∧ newHi a0 a1 1 a4 = mid a0 a1 a4) := ⟨by simp [newLo], by simp [newHi]⟩
  obtain ⟨X, hX⟩ : ∃ X, X = mid a0 a1 a3 := ⟨_, rfl⟩
  obtain ⟨Y, hY⟩ : ∃ Y, Y = mid a0 a1 a4 := ⟨_, rfl⟩
  rw [← hX] at x0 x1 xy N1 N2
  rw [← hY] at y0 y1 xy N3
  clear hX hY
  obtain ⟨A, B, C, D, E, hA, hB, hC, hD, hE, g0, g1, g2, g3, g4, g5, g6, g7, hor⟩ := ends a0 a1 X Y u0 u1' x0 x1 xy y1
  go_enter Try.func4, Try.ntmps4
  go_wp2_with (go_at_call 11; go_in)
  refine (clone_any _ _ _ Z _ hn hrow hnil).mono ?_
  rintro e wa ⟨va, rfl, owna, hBa⟩
  obtain ⟨aa, ca, rfl, rowa, nila⟩ := owna.slice HR.out
  rw [HZ.out] at rowa nila ⊢
  clear owna hrow hnil
  have hsa := hBa.size
  go_wp2_with fail
  refine (clone_any _ _ _ Z _ hn rowa nila).mono ?_
  rintro e wb1 ⟨vb1, rfl, ownb1, hBb1⟩
  obtain ⟨ab1, cb1, rfl, _, _⟩ := ownb1.slice HR.out
  rw [HZ.out] at ownb1 ⊢
  go_wp2_with fail
  refine (zzencode_any wa.heap.size a0 a1 1 a3 ab1 len2 cb1 Z wb1 ownb1 hBb1.size (by rw [HZ.out]; exact hn) u0 (by omega) (by omega) (by omega) (by omega)).mono ?_
  rw [N1.out.1, N1.out.2]
  rintro e wc1 ⟨lo1, hi1, vc1, ds1, rfl, ownc1, hinv1, _, hBc1⟩
  have hB1 : Below w.heap.size w wc1 := (hBa.trans (hBb1.mono hBa.size)).trans (hBc1.mono hBa.size)
  have rowan1 := rowa.under hBb1 hBc1
  have hds1 := hinv1.1
  obtain ⟨i31, i31'⟩ := hinv1.2.2.1
  obtain ⟨i41, i41'⟩ := hinv1.2.2.2.1
  have EL1 : Hid (wid ds1 lo1 false = a0 * 4294967296) := hinv1.2.2.2.2.1
  have EH1 : Hid (wid ds1 hi1 true = X * 4294967296 + 4294967295) := hinv1.2.2.2.2.2
  obtain ⟨ac1, cc1, hvc1, rowc1, _⟩ := ownc1.slice (inv_ok hinv1 HR.out)
  have hlc1 : (Z ++ ds1).length ≤ 1048576 := by rw [List.length_append, HZ.out]; omega
  obtain ⟨m1, hm1⟩ : ∃ m, m = (Z ++ ds1).length := ⟨_, rfl⟩
  rw [← hm1] at hvc1 rowc1 hlc1
  subst hvc1
  clear ownc1 hm1 hinv1 ownb1 hBb1 hBc1 hBa
  clear rowa
  go_wp2_with fail
  refine (clone_any _ _ _ Z _ hn rowan1 nila).mono ?_
  rintro e wb2 ⟨vb2, rfl, ownb2, hBb2⟩
  obtain ⟨ab2, cb2, rfl, _, _⟩ := ownb2.slice HR.out
  rw [HZ.out] at ownb2 ⊢
  go_wp2_with fail
  refine (zzencode_any wc1.heap.size a0 a1 0 a3 ab2 len2 cb2 Z wb2 ownb2 hBb2.size (by rw [HZ.out]; exact hn) u0 (by omega) (by omega) (by omega) (by omega)).mono ?_
  rw [N2.out.1, N2.out.2]
  rintro e wc2 ⟨lo2, hi2, vc2, ds2, rfl, ownc2, hinv2, _, hBc2⟩
  have hB2 : Below w.heap.size w wc2 := (hB1.trans (hBb2.mono hB1.size)).trans (hBc2.mono hB1.size)
  have rowan1n2 := rowan1.under hBb2 hBc2
  have rowc1n2 := rowc1.under hBb2 hBc2
  have hds2 := hinv2.1
  obtain ⟨i32, i32'⟩ := hinv2.2.2.1
  obtain ⟨i42, i42'⟩ := hinv2.2.2.2.1
  have EL2 : Hid (wid ds2 lo2 false = (X + 1) * 4294967296) := hinv2.2.2.2.2.1
  have EH2 : Hid (wid ds2 hi2 true = a1 * 4294967296 + 4294967295) := hinv2.2.2.2.2.2
  obtain ⟨ac2, cc2, hvc2, rowc2, _⟩ := ownc2.slice (inv_ok hinv2 HR.out)
  have hlc2 : (Z ++ ds2).length ≤ 1048576 := by rw [List.length_append, HZ.out]; omega
  obtain ⟨m2, hm2⟩ : ∃ m, m = (Z ++ ds2).length := ⟨_, rfl⟩
  rw [← hm2] at hvc2 rowc2 hlc2
  subst hvc2
  clear ownc2 hm2 hinv2 ownb2 hBb2 hBc2 hB1
  clear rowan1 rowc1
  go_wp2_with fail
  refine (clone_any _ _ _ Z _ hn rowan1n2 nila).mono ?_
  rintro e wb3 ⟨vb3, rfl, ownb3, hBb3⟩
  obtain ⟨ab3, cb3, rfl, _, _⟩ := ownb3.slice HR.out
  rw [HZ.out] at ownb3 ⊢
  go_wp2_with fail
  refine (zzencode_any wc2.heap.size a0 a1 1 a4 ab3 len2 cb3 Z wb3 ownb3 hBb3.size (by rw [HZ.out]; exact hn) u0 (by omega) (by omega) (by omega) (by omega)).mono ?_
  rw [N3.out.1, N3.out.2]
  rintro e wc3 ⟨lo3, hi3, vc3, ds3, rfl, ownc3, hinv3, _, hBc3⟩
  have hB3 : Below w.heap.size w wc3 := (hB2.trans (hBb3.mono hB2.size)).trans (hBc3.mono hB2.size)
  have rowan1n2n3 := rowan1n2.under hBb3 hBc3
  have rowc1n2n3 := rowc1n2.under hBb3 hBc3
  have rowc2n3 := rowc2.under hBb3 hBc3
  have hds3 := hinv3.1
  obtain ⟨i33, i33'⟩ := hinv3.2.2.1
  obtain ⟨i43, i43'⟩ := hinv3.2.2.2.1
  have EL3 : Hid (wid ds3 lo3 false = a0 * 4294967296) := hinv3.2.2.2.2.1
  have EH3 : Hid (wid ds3 hi3 true = Y * 4294967296 + 4294967295) := hinv3.2.2.2.2.2
  obtain ⟨ac3, cc3, hvc3, rowc3, _⟩ := ownc3.slice (inv_ok hinv3 HR.out)
  have hlc3 : (Z ++ ds3).length ≤ 1048576 := by rw [List.length_append, HZ.out]; omega
  obtain ⟨m3, hm3⟩ : ∃ m, m = (Z ++ ds3).length := ⟨_, rfl⟩
  rw [← hm3] at hvc3 rowc3 hlc3
  subst hvc3
  clear ownc3 hm3 hinv3 ownb3 hBb3 hBc3 hB2
  clear rowan1n2 rowc1n2 rowc2
  go_wp2_with fail
  refine (prefix_any _ _ _ _ _ _ Z (Z ++ ds1) _ hlc1 rowc1n2n3 rowan1n2n3 ⟨ds1, rfl⟩).mono ?_
  rintro e wp1 ⟨rfl, hBp1⟩
  have hP1 : Below w.heap.size w wp1 := hB3.trans (hBp1.mono hB3.size)
  have q10 := rowan1n2n3.below hBp1
  have q11 := rowc1n2n3.below hBp1
  have q12 := rowc2n3.below hBp1
  have q13 := rowc3.below hBp1
  clear rowan1n2n3 rowc1n2n3 rowc2n3 rowc3 hBp1 hB3
  go_wp2_with fail
  refine (prefix_any _ _ _ _ _ _ Z (Z ++ ds2) _ hlc2 q12 q10 ⟨ds2, rfl⟩).mono ?_
  rintro e wp2 ⟨rfl, hBp2⟩
  have hP2 : Below w.heap.size w wp2 := hP1.trans (hBp2.mono hP1.size)
  have q20 := q10.below hBp2
  have q21 := q11.below hBp2
  have q22 := q12.below hBp2
  have q23 := q13.below hBp2
  clear q10 q11 q12 q13 hBp2 hP1
  go_wp2_with fail
  refine (prefix_any _ _ _ _ _ _ Z (Z ++ ds3) _ hlc3 q23 q20 ⟨ds3, rfl⟩).mono ?_
  rintro e wp3 ⟨rfl, hBp3⟩
  have hP3 : Below w.heap.size w wp3 := hP2.trans (hBp3.mono hP2.size)
  have q30 := q20.below hBp3
  have q31 := q21.below hBp3
  have q32 := q22.below hBp3
  have q33 := q23.below hBp3
  clear q20 q21 q22 q23 hBp3 hP2
  go_wp2_with fail
  refine (widened_any _ _ _ _ Z ds1 lo1 false _ q31 HZ.out hlc1 hds1 i31 i31').mono ?_
  rw [EL1.out, hA]
  rintro e w' ⟨rfl, rfl⟩
  go_wp2_with fail
  refine (widened_any _ _ _ _ Z ds1 hi1 true _ q31 HZ.out hlc1 hds1 i41 i41').mono ?_
  rw [EH1.out, hB.out]
  rintro e w' ⟨rfl, rfl⟩
  go_wp2_with fail
  refine (widened_any _ _ _ _ Z ds2 lo2 false _ q32 HZ.out hlc2 hds2 i32 i32').mono ?_
  rw [EL2.out, hC.out]
  rintro e w' ⟨rfl, rfl⟩
  go_wp2_with fail
  refine (widened_any _ _ _ _ Z ds2 hi2 true _ q32 HZ.out hlc2 hds2 i42 i42').mono ?_
  rw [EH2.out, hD.out]
  rintro e w' ⟨rfl, rfl⟩
  go_wp2_with fail
  refine (widened_any _ _ _ _ Z ds3 hi3 true _ q33 HZ.out hlc3 hds3 i43 i43').mono ?_
  rw [EH3.out, hE.out]
  rintro e w' ⟨rfl, rfl⟩
  go_wp2_with fail
  go_ret
  exact ⟨rfl, hP3⟩

set_option maxRecDepth 100000 in
set_option maxHeartbeats 4000000 in
theorem split_swap (a0 : Int) (a1 : Int) (a2 : Option Addr) (len2 cap2 : Nat) (Z : List Int) (a3 : Int) (a4 : Int) (w : World) (u0 : 0 ≤ a0) (u1' : a1 ≤ 4294967295) (hle : ¬ a1 ≤ a0)
    (hp0 : ¬ a3 < 0) (hp1 : ¬ 4095 < a3) (hq0 : ¬ a4 < 0) (hq1 : ¬ 4095 < a4) (hpq : a4 < a3) (h16 : ¬ 65536 < (len2 : Int)) (hrow : RowB w a2 len2 Z) (hnil : a2 = none → len2 = 0 ∧ cap2 = 0) :
    Calls Try.prog 4 #[.int .u32 a0, .int .u32 a1, .slice a2 len2 cap2, .int .i32 a3, .int .i32 a4] w fun e w' => e = .returned (.bool true) ∧ Below w.heap.size w w' := by
  have hn : len2 ≤ 1048576 := by omega
  have HZ : Hid (Z.length = len2) := hrow.1
  have HR : Hid (∀ x ∈ Z, 0 ≤ x ∧ x ≤ 255) := hrow.2.1
  obtain ⟨x0, x1⟩ := mid_range a0 a1 a4 (by omega) (by omega) (by omega)
  obtain ⟨y0, y1⟩ := mid_range a0 a1 a3 (by omega) (by omega) (by omega)
  have xy := mid_mono a0 a1 a4 a3 (by omega) (by omega)
  have N1 : Hid (newLo a0 a1 1 a4 = a0 ∧ newHi a0 a1 1 a4 = mid a0 a1 a4) := ⟨by simp [newLo], by simp [newHi]⟩
  have N2 : Hid (newLo a0 a1 0 a4 = mid a0 a1 a4 + 1 ∧ newHi a0 a1 0 a4 = a1) := ⟨by simp [newLo], by simp [newHi]⟩
  have N3 : Hid (newLo a0 a1 1 a3 = a0 ∧ newHi a0 a1 1 a3 = mid a0 a1 a3) := ⟨by simp [newLo], by simp [newHi]⟩
  obtain ⟨X, hX⟩ : ∃ X, X = mid a0 a1 a4 := ⟨_, rfl⟩
  obtain ⟨Y, hY⟩ : ∃ Y, Y = mid a0 a1 a3 := ⟨_, rfl⟩
  rw [← hX] at x0 x1 xy N1 N2
  rw [← hY] at y0 y1 xy N3
  clear hX hY
  obtain ⟨A, B, C, D, E, hA, hB, hC, hD, hE, g0, g1, g2, g3, g4, g5, g6, g7, hor⟩ := ends a0 a1 X Y u0 u1' x0 x1 xy y1
  go_enter Try.func4, Try.ntmps4
  go_wp2_with (go_at_call 11; go_in)
  refine (clone_any _ _ _ Z _ hn hrow hnil).mono ?_
  rintro e wa ⟨va, rfl, owna, hBa⟩
  obtain ⟨aa, ca, rfl, rowa, nila⟩ := owna.slice HR.out
  rw [HZ.out] at rowa nila ⊢
  clear owna hrow hnil
  have hsa := hBa.size
  go_wp2_with fail
  refine (clone_any _ _ _ Z _ hn rowa nila).mono ?_
  rintro e wb1 ⟨vb1, rfl, ownb1, hBb1⟩
  obtain ⟨ab1, cb1, rfl, _, _⟩ := ownb1.slice HR.out
  rw [HZ.out] at ownb1 ⊢
  go_wp2_with fail
  refine (zzencode_any wa.heap.size a0 a1 1 a4 ab1 len2 cb1 Z wb1 ownb1 hBb1.size (by rw [HZ.out]; exact hn) u0 (by omega) (by omega) (by omega) (by omega)).mono ?_
  rw [N1.out.1, N1.out.2]
  rintro e wc1 ⟨lo1, hi1, vc1, ds1, rfl, ownc1, hinv1, _, hBc1⟩
  have hB1 : Below w.heap.size w wc1 := (hBa.trans (hBb1.mono hBa.size)).trans (hBc1.mono hBa.size)
  have rowan1 := rowa.under hBb1 hBc1
  have hds1 := hinv1.1
  obtain ⟨i31, i31'⟩ := hinv1.2.2.1
  obtain ⟨i41, i41'⟩ := hinv1.2.2.2.1
  have EL1 : Hid (wid ds1 lo1 false = a0 * 4294967296) := hinv1.2.2.2.2.1
  have EH1 : Hid (wid ds1 hi1 true = X * 4294967296 + 4294967295) := hinv1.2.2.2.2.2
  obtain ⟨ac1, cc1, hvc1, rowc1, _⟩ := ownc1.slice (inv_ok hinv1 HR.out)
  have hlc1 : (Z ++ ds1).length ≤ 1048576 := by rw [List.length_append, HZ.out]; omega
  obtain ⟨m1, hm1⟩ : ∃ m, m = (Z ++ ds1).length := ⟨_, rfl⟩
  rw [← hm1] at hvc1 rowc1 hlc1
  subst hvc1
  clear ownc1 hm1 hinv1 ownb1 hBb1 hBc1 hBa
  clear rowa
  go_wp2_with fail
  refine (clone_any _ _ _ Z _ hn rowan1 nila).mono ?_
  rintro e wb2 ⟨vb2, rfl, ownb2, hBb2⟩
  obtain ⟨ab2, cb2, rfl, _, _⟩ := ownb2.slice HR.out
  rw [HZ.out] at ownb2 ⊢
  go_wp2_with fail
  refine (zzencode_any wc1.heap.size a0 a1 0 a4 ab2 len2 cb2 Z wb2 ownb2 hBb2.size (by rw [HZ.out]; exact hn) u0 (by omega) (by omega) (by omega) (by omega)).mono ?_
  rw [N2.out.1, N2.out.2]
  rintro e wc2 ⟨lo2, hi2, vc2, ds2, rfl, ownc2, hinv2, _, hBc2⟩
  have hB2 : Below w.heap.size w wc2 := (hB1.trans (hBb2.mono hB1.size)).trans (hBc2.mono hB1.size)
  have rowan1n2 := rowan1.under hBb2 hBc2
  have rowc1n2 := rowc1.under hBb2 hBc2
  have hds2 := hinv2.1
  obtain ⟨i32, i32'⟩ := hinv2.2.2.1
  obtain ⟨i42, i42'⟩ := hinv2.2.2.2.1
  have EL2 : Hid (wid ds2 lo2 false = (X + 1) * 4294967296) := hinv2.2.2.2.2.1
  have EH2 : Hid (wid ds2 hi2 true = a1 * 4294967296 + 4294967295) := hinv2.2.2.2.2.2
  obtain ⟨ac2, cc2, hvc2, rowc2, _⟩ := ownc2.slice (inv_ok hinv2 HR.out)
  have hlc2 : (Z ++ ds2).length ≤ 1048576 := by rw [List.length_append, HZ.out]; omega
  obtain ⟨m2, hm2⟩ : ∃ m, m = (Z ++ ds2).length := ⟨_, rfl⟩
  rw [← hm2] at hvc2 rowc2 hlc2
  subst hvc2
  clear ownc2 hm2 hinv2 ownb2 hBb2 hBc2 hB1
  clear rowan1 rowc1
  go_wp2_with fail
  refine (clone_any _ _ _ Z _ hn rowan1n2 nila).mono ?_
  rintro e wb3 ⟨vb3, rfl, ownb3, hBb3⟩
  obtain ⟨ab3, cb3, rfl, _, _⟩ := ownb3.slice HR.out
  rw [HZ.out] at ownb3 ⊢
  go_wp2_with fail
  refine (zzencode_any wc2.heap.size a0 a1 1 a3 ab3 len2 cb3 Z wb3 ownb3 hBb3.size (by rw [HZ.out]; exact hn) u0 (by omega) (by omega) (by omega) (by omega)).mono ?_
  rw [N3.out.1, N3.out.2]
  rintro e wc3 ⟨lo3, hi3, vc3, ds3, rfl, ownc3, hinv3, _, hBc3⟩
  have hB3 : Below w.heap.size w wc3 := (hB2.trans (hBb3.mono hB2.size)).trans (hBc3.mono hB2.size)
  have rowan1n2n3 := rowan1n2.under hBb3 hBc3
  have rowc1n2n3 := rowc1n2.under hBb3 hBc3
  have rowc2n3 := rowc2.under hBb3 hBc3
  have hds3 := hinv3.1
  obtain ⟨i33, i33'⟩ := hinv3.2.2.1
  obtain ⟨i43, i43'⟩ := hinv3.2.2.2.1
  have EL3 : Hid (wid ds3 lo3 false = a0 * 4294967296) := hinv3.2.2.2.2.1
  have EH3 : Hid (wid ds3 hi3 true = Y * 4294967296 + 4294967295) := hinv3.2.2.2.2.2
  obtain ⟨ac3, cc3, hvc3, rowc3, _⟩ := ownc3.slice (inv_ok hinv3 HR.out)
  have hlc3 : (Z ++ ds3).length ≤ 1048576 := by rw [List.length_append, HZ.out]; omega
  obtain ⟨m3, hm3⟩ : ∃ m, m = (Z ++ ds3).length := ⟨_, rfl⟩
  rw [← hm3] at hvc3 rowc3 hlc3
  subst hvc3
  clear ownc3 hm3 hinv3 ownb3 hBb3 hBc3 hB2
  clear rowan1n2 rowc1n2 rowc2
  go_wp2_with fail
  refine (prefix_any _ _ _ _ _ _ Z (Z ++ ds1) _ hlc1 rowc1n2n3 rowan1n2n3 ⟨ds1, rfl⟩).mono ?_
  rintro e wp1 ⟨rfl, hBp1⟩
  have hP1 : Below w.heap.size w wp1 := hB3.trans (hBp1.mono hB3.size)
  have q10 := rowan1n2n3.below hBp1
  have q11 := rowc1n2n3.below hBp1
  have q12 := rowc2n3.below hBp1
  have q13 := rowc3.below hBp1
  clear rowan1n2n3 rowc1n2n3 rowc2n3 rowc3 hBp1 hB3
  go_wp2_with fail
  refine (prefix_any _ _ _ _ _ _ Z (Z ++ ds2) _ hlc2 q12 q10 ⟨ds2, rfl⟩).mono ?_
  rintro e wp2 ⟨rfl, hBp2⟩
  have hP2 : Below w.heap.size w wp2 := hP1.trans (hBp2.mono hP1.size)
  have q20 := q10.below hBp2
  have q21 := q11.below hBp2
  have q22 := q12.below hBp2
  have q23 := q13.below hBp2
  clear q10 q11 q12 q13 hBp2 hP1
  go_wp2_with fail
  refine (prefix_any _ _ _ _ _ _ Z (Z ++ ds3) _ hlc3 q23 q20 ⟨ds3, rfl⟩).mono ?_
  rintro e wp3 ⟨rfl, hBp3⟩
  have hP3 : Below w.heap.size w wp3 := hP2.trans (hBp3.mono hP2.size)
  have q30 := q20.below hBp3
  have q31 := q21.below hBp3
  have q32 := q22.below hBp3
  have q33 := q23.below hBp3
  clear q20 q21 q22 q23 hBp3 hP2
  go_wp2_with fail
  refine (widened_any _ _ _ _ Z ds1 lo1 false _ q31 HZ.out hlc1 hds1 i31 i31').mono ?_
  rw [EL1.out, hA]
  rintro e w' ⟨rfl, rfl⟩
  go_wp2_with fail
  refine (widened_any _ _ _ _ Z ds1 hi1 true _ q31 HZ.out hlc1 hds1 i41 i41').mono ?_
  rw [EH1.out, hB.out]
  rintro e w' ⟨rfl, rfl⟩
  go_wp2_with fail
  refine (widened_any _ _ _ _ Z ds2 lo2 false _ q32 HZ.out hlc2 hds2 i32 i32').mono ?_
  rw [EL2.out, hC.out]
  rintro e w' ⟨rfl, rfl⟩
  go_wp2_with fail
  refine (widened_any _ _ _ _ Z ds2 hi2 true _ q32 HZ.out hlc2 hds2 i42 i42').mono ?_
  rw [EH2.out, hD.out]
  rintro e w' ⟨rfl, rfl⟩
  go_wp2_with fail
  refine (widened_any _ _ _ _ Z ds3 hi3 true _ q33 HZ.out hlc3 hds3 i43 i43').mono ?_
  rw [EH3.out, hE.out]
  rintro e w' ⟨rfl, rfl⟩
  go_wp2_with fail
  go_ret
  exact ⟨rfl, hP3⟩

end Go.Proofs.Qxb6606424a
