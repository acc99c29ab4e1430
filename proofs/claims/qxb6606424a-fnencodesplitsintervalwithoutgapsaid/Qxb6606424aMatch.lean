/-
  THE WALK OF FnEncodeMatchesIntervalModel (3).
-/
import Derived.Test.Qxb6606424aZZ
import Derived.OpenShut
import Derived.ChangeOld
namespace Go.Proofs.Qxb6606424a
open Go.ChangeShapes Go.WideShapes Go.ChangeAt Go.RowKit
open Coder
set_option linter.unusedVariables false

/-- WHAT THE WALK IS TOLD OF A SLICE OF INTEGERS THAT CAME IN: it is nil; or it leads to a row of 'cap' cells, the numbers 'zs' (the first 'len' are its elements, the rest its spare room), each fitting its kind. -/
def IsRow (k : IntKind) (w : World) (a : Option Addr) (len cap : Nat) (zs : List Int) : Prop :=
  (a = none ∧ len = 0 ∧ cap = 0 ∧ zs = []) ∨
  ∃ x, a = some x ∧ len ≤ cap ∧ cap ≤ maxLen ∧ zs.length = cap ∧ (∀ i, i < zs.length → w.cell? (x.add i) = some (.int k (zs.getD i 0))) ∧ ∀ n ∈ zs, (Lit.int k n).wf = true

theorem below_of_cell {w : World} {a : Addr} {v : Value} (h : w.cell? a = some v) : a.block < w.heap.size := by
  by_cases hb : a.block < w.heap.size
  · exact hb
  · have e : w.heap[a.block]? = none := Array.getElem?_eq_none (by omega)
    simp [World.cell?, e] at h

theorem IsRow.row {w : World} {a : Option Addr} {len cap : Nat} {zs : List Int} (h : IsRow .u8 w a len cap zs) : RowB w a len (zs.take len) ∧ (a = none → len = 0 ∧ cap = 0) ∧ len ≤ maxLen := by
  rcases h with ⟨rfl, rfl, rfl, rfl⟩ | ⟨x, rfl, hl, hm, hz, hcell, hwf⟩
  · exact ⟨⟨rfl, by simp, fun h => absurd h (Nat.lt_irrefl _)⟩, fun _ => ⟨rfl, rfl⟩, Nat.zero_le _⟩
  · refine ⟨⟨by simp; omega, fun y hy => bounds_u8 (hwf y (List.mem_of_mem_take hy)), fun h0 => ?_⟩, fun h => (by cases h), by omega⟩
    obtain ⟨b, off, spot⟩ := x
    have c00 := hcell 0 (by omega)
    have hspot : spot = none := by simpa [Addr.add] using World.cell?_spot c00
    subst hspot
    refine ⟨b, off, rfl, below_of_cell c00, fun i hi => ?_⟩
    have := hcell i (by omega)
    rw [add_plain] at this
    rw [this]
    simp [List.getD_eq_getElem?_getD, hi]

/-- A row that was there before w's newest blocks is still there. -/
theorem RowB.under {w wb wc : World} {a : Option Addr} {n : Nat} {zs : List Int} (h : RowB w a n zs) (hb : Below w.heap.size w wb) (hc : Below w.heap.size wb wc) : RowB wc a n zs := h.below (hb.trans hc)

set_option maxHeartbeats 2000000 in
theorem match_walk (a0 : Int) (a1 : Int) (a2 : Option Addr) (len2 cap2 : Nat) (z2 : List Int) (a3 : Int) (a4 : Int) (w : World) (w0 : (Lit.int .u32 a0).wf = true) (w1 : (Lit.int .u32 a1).wf = true) (w2 : IsRow .u8 w a2 len2 cap2 z2) (w3 : (Lit.int .i64 a3).wf = true) (w4 : (Lit.int .i32 a4).wf = true) :
    Calls Try.prog 3 #[.int .u32 a0, .int .u32 a1, .slice a2 len2 cap2, .int .i64 a3, .int .i32 a4] w fun e w' => e = .returned (.bool true) ∧ Below w.heap.size w w' := by
  obtain ⟨hrow, hnil, hmax⟩ := w2.row
  have hx : len2 ≤ 9223372036854775807 := hmax
  obtain ⟨u0, u0'⟩ := bounds_u32 w0
  obtain ⟨u1, u1'⟩ := bounds_u32 w1
  obtain ⟨u4, u4'⟩ := bounds_i32 w4
  clear w0 w1 w2 w3 w4 hmax
  by_cases h20 : 1048576 < (len2 : Int)
  · go_enter Try.func3, Try.ntmps3
    go_wp2_with (go_at_call 6; go_in)
    go_ret
    exact ⟨rfl, Below.refl _ _⟩
  by_cases h16 : 65536 < (len2 : Int)
  · go_enter Try.func3, Try.ntmps3
    go_wp2_with (go_at_call 6; go_in)
    go_ret
    exact ⟨rfl, Below.refl _ _⟩
  by_cases hp0 : a4 < 0
  · go_enter Try.func3, Try.ntmps3
    go_wp2_with (go_at_call 6; go_in)
    go_ret
    exact ⟨rfl, Below.refl _ _⟩
  by_cases hp1 : 4095 < a4
  · go_enter Try.func3, Try.ntmps3
    go_wp2_with (go_at_call 6; go_in)
    go_ret
    exact ⟨rfl, Below.refl _ _⟩
  by_cases hle : a1 ≤ a0
  · go_enter Try.func3, Try.ntmps3
    go_wp2_with (go_at_call 6; go_in)
    go_ret
    exact ⟨rfl, Below.refl _ _⟩
  have hn : len2 ≤ 1048576 := by omega
  obtain ⟨q0, q1⟩ := prod_range a0 a1 a4 (by omega) (by omega) (by omega)
  obtain ⟨m0, m1⟩ := mid_range a0 a1 a4 (by omega) (by omega) (by omega)
  obtain ⟨M, hM⟩ : ∃ M, M = (a1 - a0) * a4 := ⟨_, rfl⟩
  have hM' : (a1 - a0) * a4 = M := hM.symm
  rw [← hM] at q0 q1
  have hm : mid a0 a1 a4 = a0 + M / 4096 := by rw [hM]; rfl
  rw [hm] at m0 m1
  have HM : Hid (mid a0 a1 a4 = a0 + M / 4096) := hm
  clear hM hm
  have HZ : Hid ((z2.take len2).length = len2) := hrow.1
  have HR : Hid (∀ x ∈ z2.take len2, 0 ≤ x ∧ x ≤ 255) := hrow.2.1
  obtain ⟨Z, hZ⟩ : ∃ Z, Z = z2.take len2 := ⟨_, rfl⟩
  rw [← hZ] at HZ HR hrow
  clear hZ
  by_cases hbit : a3 = 0
  · obtain ⟨L, hL⟩ : ∃ L, L = a0 + M / 4096 + 1 := ⟨_, rfl⟩
    have HNL : Hid (newLo a0 a1 a3 a4 = L) := by show newLo a0 a1 a3 a4 = L; rw [newLo, if_pos hbit, HM.out, hL]
    have HNH : Hid (newHi a0 a1 a3 a4 = a1) := by show newHi a0 a1 a3 a4 = a1; rw [newHi, if_pos hbit]
    have lL0 : 0 ≤ L := by omega
    have lL1 : L < 4294967296 := by omega
    have hL' : a0 + M / 4096 + 1 = L := hL.symm
    have hb' : (a3 != 0) = false := by simp [hbit]
    clear hL hbit
    have hor := u64_or32 (a1 * 4294967296) 4294967295 (by omega) (by omega) (by omega) (by omega) (by omega)
    go_enter Try.func3, Try.ntmps3
    go_wp2_with (go_at_call 6; go_in)
    refine (clone_any _ _ _ Z _ hn hrow hnil).mono ?_
    rintro e wa ⟨va, rfl, owna, hBa⟩
    obtain ⟨aa, ca, rfl, rowa, nila⟩ := owna.slice HR.out
    rw [HZ.out] at rowa nila ⊢
    clear owna
    go_wp2_with fail
    refine (clone_any _ _ _ Z _ hn rowa nila).mono ?_
    rintro e wb ⟨vb, rfl, ownb, hBb⟩
    have rowa2 := rowa.below hBb
    have hB2 : Below w.heap.size w wb := hBa.trans (hBb.mono hBa.size)
    have hs2 := hB2.size
    have hsa := hBa.size
    have hsb := hBb.size
    obtain ⟨ab, cb, rfl, _, _⟩ := ownb.slice HR.out
    rw [HZ.out] at ownb ⊢
    clear hBa nila
    go_wp2_with fail
    refine (zzencode_any wa.heap.size a0 a1 a3 a4 ab len2 cb Z wb ownb hsb (by rw [HZ.out]; exact hn) u0 (by omega) (by omega) (by omega) (by omega)).mono ?_
    rw [HNL.out, HNH.out]
    rintro e wc ⟨lo', hi', vc, ds, rfl, ownc, hinv, hne, hBc⟩
    have hs3 := hBc.size
    have rowa3 : RowB wc aa len2 Z := rowa.under hBb hBc
    have hB3 : Below w.heap.size w wc := hB2.trans (hBc.mono hsa)
    have hds := hinv.1
    obtain ⟨i30, i31⟩ := hinv.2.2.1
    obtain ⟨i40, i41⟩ := hinv.2.2.2.1
    have E1 : Hid (wid ds lo' false = L * 4294967296) := hinv.2.2.2.2.1
    have E2 : Hid (wid ds hi' true = a1 * 4294967296 + 4294967295) := hinv.2.2.2.2.2
    have hrr : ∀ x ∈ Z ++ ds, 0 ≤ x ∧ x ≤ 255 := by
      intro x hx
      rcases List.mem_append.mp hx with h | h
      · exact HR.out x h
      · exact hinv.2.1 x h
    have htop := top_no lo' hi' i30 i31 i40 i41 hne
    have htop' : (bits .and .u32 (bits .xor .u32 lo' hi') 4278190080 != 0) = true := by simp [bne, htop]
    clear hinv hne
    obtain ⟨ac, cc, hvc, rowc, _⟩ := ownc.slice hrr
    have hlc : (Z ++ ds).length ≤ 1048576 := by rw [List.length_append, HZ.out]; omega
    obtain ⟨m, hm⟩ : ∃ m, m = (Z ++ ds).length := ⟨_, rfl⟩
    rw [← hm] at hvc rowc hlc
    subst hvc
    clear ownc hrr hm
    go_wp2_with fail
    refine (prefix_any _ _ _ _ _ _ Z (Z ++ ds) _ hlc rowc rowa3 ⟨ds, rfl⟩).mono ?_
    rintro e wd ⟨rfl, hBd⟩
    have rowc2 := rowc.below hBd
    have hB4 : Below w.heap.size w wd := hB3.trans (hBd.mono hB3.size)
    clear rowa rowa2 rowa3 rowc hBd hB3 hB2 hBc hBb
    go_wp2_with fail
    refine (widened_any _ _ _ _ Z ds lo' false _ rowc2 HZ.out hlc hds i30 i31).mono ?_
    rw [E1.out]
    rintro e w' ⟨rfl, rfl⟩
    go_wp2_with fail
    refine (widened_any _ _ _ _ Z ds hi' true _ rowc2 HZ.out hlc hds i40 i41).mono ?_
    rw [E2.out]
    rintro e w' ⟨rfl, rfl⟩
    go_wp2_with fail
    go_ret
    exact ⟨rfl, hB4⟩
  · obtain ⟨H, hH⟩ : ∃ H, H = a0 + M / 4096 := ⟨_, rfl⟩
    have HNL : Hid (newLo a0 a1 a3 a4 = a0) := by show newLo a0 a1 a3 a4 = a0; rw [newLo, if_neg hbit]
    have HNH : Hid (newHi a0 a1 a3 a4 = H) := by show newHi a0 a1 a3 a4 = H; rw [newHi, if_neg hbit, HM.out, hH]
    have lH0 : 0 ≤ H := by omega
    have lH1 : H < 4294967296 := by omega
    have hH' : a0 + M / 4096 = H := hH.symm
    have hb' : (a3 != 0) = true := by simp [bne, hbit]
    clear hH hbit
    have hor := u64_or32 (H * 4294967296) 4294967295 (by omega) (by omega) (by omega) (by omega) (by omega)
    go_enter Try.func3, Try.ntmps3
    go_wp2_with (go_at_call 6; go_in)
    refine (clone_any _ _ _ Z _ hn hrow hnil).mono ?_
    rintro e wa ⟨va, rfl, owna, hBa⟩
    obtain ⟨aa, ca, rfl, rowa, nila⟩ := owna.slice HR.out
    rw [HZ.out] at rowa nila ⊢
    clear owna
    go_wp2_with fail
    refine (clone_any _ _ _ Z _ hn rowa nila).mono ?_
    rintro e wb ⟨vb, rfl, ownb, hBb⟩
    have rowa2 := rowa.below hBb
    have hB2 : Below w.heap.size w wb := hBa.trans (hBb.mono hBa.size)
    have hs2 := hB2.size
    have hsa := hBa.size
    have hsb := hBb.size
    obtain ⟨ab, cb, rfl, _, _⟩ := ownb.slice HR.out
    rw [HZ.out] at ownb ⊢
    clear hBa nila
    go_wp2_with fail
    refine (zzencode_any wa.heap.size a0 a1 a3 a4 ab len2 cb Z wb ownb hsb (by rw [HZ.out]; exact hn) u0 (by omega) (by omega) (by omega) (by omega)).mono ?_
    rw [HNL.out, HNH.out]
    rintro e wc ⟨lo', hi', vc, ds, rfl, ownc, hinv, hne, hBc⟩
    have hs3 := hBc.size
    have rowa3 : RowB wc aa len2 Z := rowa.under hBb hBc
    have hB3 : Below w.heap.size w wc := hB2.trans (hBc.mono hsa)
    have hds := hinv.1
    obtain ⟨i30, i31⟩ := hinv.2.2.1
    obtain ⟨i40, i41⟩ := hinv.2.2.2.1
    have E1 : Hid (wid ds lo' false = a0 * 4294967296) := hinv.2.2.2.2.1
    have E2 : Hid (wid ds hi' true = H * 4294967296 + 4294967295) := hinv.2.2.2.2.2
    have hrr : ∀ x ∈ Z ++ ds, 0 ≤ x ∧ x ≤ 255 := by
      intro x hx
      rcases List.mem_append.mp hx with h | h
      · exact HR.out x h
      · exact hinv.2.1 x h
    have htop := top_no lo' hi' i30 i31 i40 i41 hne
    have htop' : (bits .and .u32 (bits .xor .u32 lo' hi') 4278190080 != 0) = true := by simp [bne, htop]
    clear hinv hne
    obtain ⟨ac, cc, hvc, rowc, _⟩ := ownc.slice hrr
    have hlc : (Z ++ ds).length ≤ 1048576 := by rw [List.length_append, HZ.out]; omega
    obtain ⟨m, hm⟩ : ∃ m, m = (Z ++ ds).length := ⟨_, rfl⟩
    rw [← hm] at hvc rowc hlc
    subst hvc
    clear ownc hrr hm
    go_wp2_with fail
    refine (prefix_any _ _ _ _ _ _ Z (Z ++ ds) _ hlc rowc rowa3 ⟨ds, rfl⟩).mono ?_
    rintro e wd ⟨rfl, hBd⟩
    have rowc2 := rowc.below hBd
    have hB4 : Below w.heap.size w wd := hB3.trans (hBd.mono hB3.size)
    clear rowa rowa2 rowa3 rowc hBd hB3 hB2 hBc hBb
    go_wp2_with fail
    refine (widened_any _ _ _ _ Z ds lo' false _ rowc2 HZ.out hlc hds i30 i31).mono ?_
    rw [E1.out]
    rintro e w' ⟨rfl, rfl⟩
    go_wp2_with fail
    refine (widened_any _ _ _ _ Z ds hi' true _ rowc2 HZ.out hlc hds i40 i41).mono ?_
    rw [E2.out]
    rintro e w' ⟨rfl, rfl⟩
    go_wp2_with fail
    go_ret
    exact ⟨rfl, hB4⟩
end Go.Proofs.Qxb6606424a
