/-
  THE TEST ON THE TOP BYTE, in plain numbers.
-/
import Derived.Test.Qxb6606424aWiden
namespace Go.Proofs.Qxb6606424a
open Go.RowKit

theorem and_top (x : Nat) (h : x < 2 ^ 32) : x &&& (255 * 2 ^ 24) = x / 2 ^ 24 * 2 ^ 24 := by
  apply Nat.eq_of_testBit_eq
  intro i
  rw [Nat.testBit_and, Nat.testBit_mul_two_pow, Nat.testBit_mul_two_pow, Nat.testBit_div_two_pow, show 255 = 2 ^ 8 - 1 from rfl, Nat.testBit_two_pow_sub_one]
  by_cases h1 : 24 ≤ i
  · have e : i - 24 + 24 = i := by omega
    rw [e]
    by_cases h2 : i - 24 < 8
    · simp [h1, h2]
    · have : x.testBit i = false := Nat.testBit_lt_two_pow (Nat.lt_of_lt_of_le h (Nat.pow_le_pow_right (by decide) (by omega)))
      simp [this]
  · simp [h1]
theorem xor_top (a b : Nat) : (a ^^^ b) / 2 ^ 24 = 0 ↔ a / 2 ^ 24 = b / 2 ^ 24 := by
  constructor
  · intro h
    apply Nat.eq_of_testBit_eq
    intro i
    have h2 : ((a ^^^ b) / 2 ^ 24).testBit i = false := by rw [h]; simp
    rw [Nat.testBit_div_two_pow, Nat.testBit_xor] at h2
    rw [Nat.testBit_div_two_pow, Nat.testBit_div_two_pow]
    simpa using h2
  · intro h
    apply Nat.eq_of_testBit_eq
    intro i
    rw [Nat.testBit_div_two_pow, Nat.testBit_xor]
    have h2 : (a / 2 ^ 24).testBit i = (b / 2 ^ 24).testBit i := by rw [h]
    rw [Nat.testBit_div_two_pow, Nat.testBit_div_two_pow] at h2
    simp [h2]
theorem top_iff (lo hi : Int) (l0 : 0 ≤ lo) (l1 : lo < 4294967296) (h0 : 0 ≤ hi) (h1 : hi < 4294967296) : bits .and .u32 (bits .xor .u32 lo hi) 4278190080 = 0 ↔ lo / 16777216 = hi / 16777216 := by
  obtain ⟨a, rfl⟩ := Int.eq_ofNat_of_zero_le l0
  obtain ⟨b, rfl⟩ := Int.eq_ofNat_of_zero_le h0
  have ha : a < 4294967296 := by omega
  have hb : b < 4294967296 := by omega
  have hx : a ^^^ b < 2 ^ 32 := Nat.xor_lt_two_pow (by omega) (by omega)
  have e1 := u32_xor_nat a b ha hb
  have e2 := u32_and_nat (a ^^^ b) 4278190080 (by omega) (by decide)
  rw [e1]
  have e3 : bits .and .u32 ((a ^^^ b : Nat) : Int) 4278190080 = (((a ^^^ b) &&& 4278190080 : Nat) : Int) := e2
  rw [e3, show 4278190080 = 255 * 2 ^ 24 from rfl, and_top _ hx]
  have := xor_top a b
  constructor
  · intro h
    have : a / 2 ^ 24 = b / 2 ^ 24 := this.mp (by omega)
    omega
  · intro h
    have : (a ^^^ b) / 2 ^ 24 = 0 := this.mpr (by omega)
    rw [this]; rfl
theorem top_yes (lo hi : Int) (l0 : 0 ≤ lo) (l1 : lo < 4294967296) (h0 : 0 ≤ hi) (h1 : hi < 4294967296) (e : lo / 16777216 = hi / 16777216) : bits .and .u32 (bits .xor .u32 lo hi) 4278190080 = 0 := (top_iff lo hi l0 l1 h0 h1).mpr e
theorem top_no (lo hi : Int) (l0 : 0 ≤ lo) (l1 : lo < 4294967296) (h0 : 0 ≤ hi) (h1 : hi < 4294967296) (e : ¬ lo / 16777216 = hi / 16777216) : (bits .and .u32 (bits .xor .u32 lo hi) 4278190080 == 0) = false := by
  have : ¬ bits .and .u32 (bits .xor .u32 lo hi) 4278190080 = 0 := fun h => e ((top_iff lo hi l0 l1 h0 h1).mp h)
  simpa using this
end Go.Proofs.Qxb6606424a
