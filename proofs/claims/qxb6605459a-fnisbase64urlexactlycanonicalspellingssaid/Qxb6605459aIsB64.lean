/-
  THE WALKS OF isBase64URL (25) and its shim (11).
-/
import Derived.Test.Qxb6605459aDigits
namespace Go.Proofs.Qxb6605459a
open Go.RowKit
open B64
set_option linter.unusedVariables false

/-- A string's bytes as numbers. -/
def bl (s : ByteArray) : List Int := s.data.toList.map fun b => (b.toNat : Int)
theorem bl_len (s : ByteArray) : (bl s).length = s.size := by simp [bl]
theorem bl_get (s : ByteArray) (k : Nat) (h : k < s.size) : (bl s)[k]'(by rw [bl_len]; exact h) = (s[k].toNat : Int) := by
  simp [bl]; rfl
theorem bl_take (s : ByteArray) (k : Nat) (h : k < s.size) : (bl s).take (k + 1) = (bl s).take k ++ [(s[k].toNat : Int)] := by
  rw [List.take_succ_eq_append_getElem (by rw [bl_len]; exact h), bl_get s k h]
theorem bl_take_all (s : ByteArray) : (bl s).take s.size = bl s := List.take_of_length_le (by rw [bl_len]; exact Nat.le_refl _)
theorem u8_range (b : UInt8) : (0 : Int) ≤ (b.toNat : Int) ∧ (b.toNat : Int) ≤ 255 := by have := b.toNat_lt; omega
theorem lastV_snoc (l : List Int) (c : Int) : lastV (l ++ [c]) = digV c := by simp [lastV]
theorem lastV_range (l : List Int) : 0 ≤ lastV l ∧ lastV l < 64 := by
  unfold lastV
  cases l.getLast? with
  | none => exact ⟨by decide, by decide⟩
  | some c => exact digV_range c
theorem isB64_bad (s : ByteArray) (k : Nat) (h : k < s.size) (hc : digOk (s[k].toNat : Int) = false) : isB64 (bl s) = false := by
  have hm : (s[k].toNat : Int) ∈ bl s := by rw [← bl_get s k h]; exact List.getElem_mem _
  have : (bl s).all digOk = false := by
    rw [List.all_eq_false]; exact ⟨_, hm, by simp [hc]⟩
  simp [isB64, this]
theorem and15 : ∀ v : Fin 64, bits .and .u8 (v.val : Int) 15 = (v.val : Int) % 16 := by decide +kernel
theorem and3 : ∀ v : Fin 64, bits .and .u8 (v.val : Int) 3 = (v.val : Int) % 4 := by decide +kernel
theorem and15_of (v : Int) (h0 : 0 ≤ v) (h1 : v < 64) : bits .and .u8 v 15 = v % 16 := by
  have := and15 ⟨v.toNat, by omega⟩
  simpa [show ((v.toNat : Nat) : Int) = v from by omega] using this
theorem and3_of (v : Int) (h0 : 0 ≤ v) (h1 : v < 64) : bits .and .u8 v 3 = v % 4 := by
  have := and3 ⟨v.toNat, by omega⟩
  simpa [show ((v.toNat : Nat) : Int) = v from by omega] using this

theorem tail0 (n : Nat) (v : Int) (h : n % 4 = 0) : true = tailOk n v := by simp [tailOk, h]
theorem tail1 (n : Nat) (v : Int) (h : n % 4 = 1) : false = tailOk n v := by simp [tailOk, h]
theorem tail2 (n : Nat) (v : Int) (h : n % 4 = 2) : (v % 16 == 0) = tailOk n v := by rw [Bool.eq_iff_iff]; simp [tailOk, h]
theorem tail3 (n : Nat) (v : Int) (h : n % 4 = 3) : (v % 4 == 0) = tailOk n v := by rw [Bool.eq_iff_iff]; simp [tailOk, h]

/-- isBase64URL -/
theorem isB64_any (s : ByteArray) (hs : s.size ≤ maxLen) (w : World) :
    Calls Try.prog 25 #[.string s] w fun e w' => e = .returned (.bool (isB64 (bl s))) ∧ w' = w := by
  unfold maxLen at hs
  go_enter Try.func25, Try.ntmps25
  go_wp2
  go_loop [3, 9] (fun l i => ∃ k : Nat, k ≤ s.size ∧ i = .int .i64 k ∧ l = .int .u8 (lastV ((bl s).take k)) ∧ ((bl s).take k).all digOk = true) (fun _ i => s.size - (intOf i).toNat)
  case atStart => exact ⟨0, Nat.zero_le _, rfl, rfl, rfl⟩
  case round =>
    obtain ⟨k, hk, rfl, rfl, hall⟩ := hrel
    have HA : Hid (((bl s).take k).all digOk = true) := hall
    clear hall
    by_cases hlt : k < s.size
    · have hr := u8_range s[k]
      obtain ⟨r0, r1⟩ := hr
      cases hd : digOk (s[k].toNat : Int)
      · have HB : Hid (isB64 (bl s) = false) := isB64_bad s k hlt hd
        go_wp2_with (go_at_call 24; refine (digit_any _ r0 r1 _).mono ?_; rw [hd]; rintro e w' ⟨rfl, rfl⟩)
        go_ret
        exact ⟨ret_bool HB.out.symm, rfl⟩
      · have HT : Hid ((bl s).take (k + 1) = (bl s).take k ++ [(s[k].toNat : Int)]) := bl_take s k hlt
        go_wp2_with (go_at_call 24; refine (digit_any _ r0 r1 _).mono ?_; rw [hd]; rintro e w' ⟨rfl, rfl⟩)
        go_round
        case rel => exact ⟨k + 1, by omega, by go_num, by rw [HT.out, lastV_snoc], by rw [HT.out, List.all_append, HA.out]; simp [hd]⟩
        case measure => simp [intOf]; omega
    · have e : k = s.size := by omega
      subst e
      rw [bl_take_all] at HA ⊢
      have hr := lastV_range (bl s)
      obtain ⟨r0, r1⟩ := hr
      have ha := and15_of _ r0 r1
      have hb := and3_of _ r0 r1
      have HI : Hid (isB64 (bl s) = tailOk s.size (lastV (bl s))) := by
        show isB64 (bl s) = _
        rw [isB64, HA.out, bl_len]; rfl
      rcases (show s.size % 4 = 0 ∨ s.size % 4 = 1 ∨ s.size % 4 = 2 ∨ s.size % 4 = 3 from by omega) with h | h | h | h
      all_goals
        go_wp2
        go_ret
        first | exact ⟨ret_bool ((tail0 _ _ h).trans HI.out.symm), rfl⟩ | exact ⟨ret_bool ((tail1 _ _ h).trans HI.out.symm), rfl⟩ | exact ⟨ret_bool ((tail2 _ _ h).trans HI.out.symm), rfl⟩ | exact ⟨ret_bool ((tail3 _ _ h).trans HI.out.symm), rfl⟩

/-- its shim -/
theorem isB64_shim (s : ByteArray) (hs : s.size ≤ maxLen) (w : World) :
    Calls Try.prog 11 #[.string s] w fun e w' => e = .returned (.bool (isB64 (bl s))) ∧ w' = w := by
  go_enter Try.func11, Try.ntmps11
  go_wp2_with (go_at_call 25; refine (isB64_any _ hs _).mono ?_; rintro e w' ⟨rfl, rfl⟩)
  go_ret
  exact ⟨rfl, rfl⟩
end Go.Proofs.Qxb6605459a
