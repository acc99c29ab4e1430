/-
  THE WALK OF FnUpperLettersExactSpec (5).
-/
import Derived.Test.Qxb6600443aUpper
namespace Go.Proofs.Qxb6600443a
open Go.RowKit
set_option linter.unusedVariables false

theorem wrap_in (x : Int) (h : 65 ≤ x) (h' : x ≤ 90) : IntKind.u8.wrap (x - 65) = x - 65 := by rw [IntKind.wrap_u8]; omega
theorem wrap_out (x : Int) (h0 : 0 ≤ x) (h1 : x ≤ 255) (h : ¬ (65 ≤ x ∧ x ≤ 90)) : ¬ IntKind.u8.wrap (x - 65) < 26 := by rw [IntKind.wrap_u8]; omega
theorem u8_range (b : UInt8) : (0 : Int) ≤ (b.toNat : Int) ∧ (b.toNat : Int) ≤ 255 := by have := b.toNat_lt; omega

set_option maxHeartbeats 1000000 in
theorem law_walk (a0 : ByteArray) (a1 : Int) (w0 : a0.size ≤ maxLen) (w : World) :
    Calls Try.prog 5 #[.string a0, .int .i64 a1] w fun e w' => e = .returned (.bool true) ∧ Below w.heap.size w w' := by
  unfold maxLen at w0
  by_cases h20 : 1048576 < (a0.size : Int)
  · go_enter Try.func5, Try.ntmps5
    go_wp2
    go_ret
    exact ⟨rfl, Below.refl _ _⟩
  have hs : a0.size ≤ 1048576 := by omega
  go_enter Try.func5, Try.ntmps5
  go_wp2_with (go_at_call 10; go_in)
  go_loop [5, 6] (fun u i => ∃ k : Nat, k ≤ a0.size ∧ i = .int .i64 k ∧ u = .int .i64 (cnt ((bl a0).take k))) (fun _ i => a0.size - (intOf i).toNat)
  case atStart => exact ⟨0, Nat.zero_le _, rfl, rfl⟩
  case round =>
    obtain ⟨k, hk, rfl, rfl⟩ := hrel
    have hc := cnt_le ((bl a0).take k)
    have hc' : ((bl a0).take k).length ≤ k := List.length_take_le _ _
    by_cases hlt : k < a0.size
    · obtain ⟨r0, r1⟩ := u8_range a0[k]
      have HT : Hid (cnt ((bl a0).take (k + 1)) = cnt ((bl a0).take k) + if up (a0[k].toNat : Int) = true then 1 else 0) := by
        show cnt _ = _
        rw [bl_take a0 k hlt, cnt_snoc]
      obtain ⟨N, hN⟩ : ∃ N, N = cnt ((bl a0).take k) := ⟨_, rfl⟩
      rw [← hN] at hc HT ⊢
      clear hN
      cases hd : up (a0[k].toNat : Int)
      · have hx := (up_false_iff _).mp hd
        have hw := wrap_out _ r0 r1 hx
        have HT2 : Hid (cnt ((bl a0).take (k + 1)) = N) := by show cnt _ = N; rw [HT.out, hd]; rfl
        clear HT hd hx
        go_wp2_with fail
        go_round
        case rel => exact ⟨k + 1, by omega, by go_num, by rw [HT2.out]⟩
        case measure => simp [intOf]; omega
      · obtain ⟨hx0, hx1⟩ := (up_iff _).mp hd
        have hw := wrap_in _ hx0 hx1
        have HT2 : Hid (cnt ((bl a0).take (k + 1)) = N + 1) := by show cnt _ = N + 1; rw [HT.out, hd]; rfl
        clear HT hd
        go_wp2_with fail
        go_round
        case rel => exact ⟨k + 1, by omega, by go_num, by rw [HT2.out]; go_num⟩
        case measure => simp [intOf]; omega
    · have e : k = a0.size := by omega
      subst e
      rw [bl_take_all] at hc ⊢
      have hall := cnt_all a0
      obtain ⟨N, hN⟩ : ∃ N, N = cnt (bl a0) := ⟨_, rfl⟩
      rw [← hN] at hc hall ⊢
      have HA : Hid (N = a0.size ↔ allUp a0 = true) := hall
      clear hN hall
      by_cases hn : (a0.size : Int) = a1
      · have h1 : ((a0.size : Int) == a1) = true := by simpa using hn
        have h2 : (a1 == (a0.size : Int)) = true := by simpa using hn.symm
        cases hu : allUp a0
        · have h3 : ((N : Int) == a1) = false := by
            have : ¬ N = a0.size := fun h => by rw [HA.out.mp h] at hu; cases hu
            simp; omega
          clear hn
          go_wp2_with (go_at_call 11; refine (shim_yes a0 a1 h1 hs _).mono ?_; rw [hu]; rintro e w' ⟨rfl, hB⟩)
          go_ret
          exact ⟨rfl, hB⟩
        · have h3 : ((N : Int) == a1) = true := by
            have : N = a0.size := HA.out.mpr hu
            simp; omega
          clear hn
          go_wp2_with (go_at_call 11; refine (shim_yes a0 a1 h1 hs _).mono ?_; rw [hu]; rintro e w' ⟨rfl, hB⟩)
          go_ret
          exact ⟨rfl, hB⟩
      · have h1 : ((a0.size : Int) == a1) = false := by simpa using hn
        have h2 : (a1 == (a0.size : Int)) = false := by simpa using fun h => hn h.symm
        clear hn
        go_wp2_with (go_at_call 11; refine (shim_no a0 a1 h1 _).mono ?_; rintro e w' ⟨rfl, hB⟩)
        go_ret
        exact ⟨rfl, hB⟩
end Go.Proofs.Qxb6600443a
