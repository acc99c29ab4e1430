/-
  THE WALKS OF base64URLDigit (24), its shim (8) and zzSextet (9).
-/
import Derived.Test.Qxb6605459aRows
import Derived.WalkKit
import Derived.ProofKit
import Derived.Test.Qxb6605459aPlain
namespace Go.Proofs.Qxb6605459a
open Go.RowKit
open B64
set_option linter.unusedVariables false

theorem ret_dig {k : IntKind} {a b : Int} {p q : Bool} (h : b = a ∧ q = p) : Ending.returned (.tuple #[.int k a, .bool p]) = .returned (.tuple #[.int k b, .bool q]) := by rw [h.1, h.2]
theorem ret_int {k : IntKind} {a b : Int} (h : a = b) : Ending.returned (.int k a) = .returned (.int k b) := by rw [h]
theorem ret_bool {a b : Bool} (h : a = b) : Ending.returned (.bool a) = .returned (.bool b) := by rw [h]

theorem v1 (c : Int) (h : 65 ≤ c) (h' : c ≤ 90) : digV c = c - 65 ∧ digOk c = true := by
  constructor
  · unfold digV; repeat' split
    all_goals omega
  · rw [digOk_iff]; omega
theorem v2 (c : Int) (h : 97 ≤ c) (h' : c ≤ 122) : digV c = c - 97 + 26 ∧ digOk c = true := by
  constructor
  · unfold digV; repeat' split
    all_goals omega
  · rw [digOk_iff]; omega
theorem v3 (c : Int) (h : 48 ≤ c) (h' : c ≤ 57) : digV c = c - 48 + 52 ∧ digOk c = true := by
  constructor
  · unfold digV; repeat' split
    all_goals omega
  · rw [digOk_iff]; omega
theorem v4 : digV 45 = 62 ∧ digOk 45 = true := by decide
theorem v5 : digV 95 = 63 ∧ digOk 95 = true := by decide
theorem v6 (c : Int) (h1 : ¬ (65 ≤ c ∧ c ≤ 90)) (h2 : ¬ (97 ≤ c ∧ c ≤ 122)) (h3 : ¬ (48 ≤ c ∧ c ≤ 57)) (h4 : ¬ c = 45) (h5 : ¬ c = 95) : digV c = 0 ∧ digOk c = false := by
  have : digOk c = false := by rw [digOk_false_iff]; omega
  exact ⟨digV_not c this, this⟩

/-- base64URLDigit -/
theorem digit_any (c : Int) (h0 : 0 ≤ c) (h1 : c ≤ 255) (w : World) :
    Calls Try.prog 24 #[.int .u8 c] w fun e w' => e = .returned (.tuple #[.int .u8 (digV c), .bool (digOk c)]) ∧ w' = w := by
  rcases (show (65 ≤ c ∧ c ≤ 90) ∨ (97 ≤ c ∧ c ≤ 122) ∨ (48 ≤ c ∧ c ≤ 57) ∨ c = 45 ∨ c = 95 ∨ (122 < c) ∨ (90 < c ∧ c < 95) ∨ c = 96 ∨ (57 < c ∧ c < 65) ∨ (45 < c ∧ c < 48) ∨ c < 45 from by omega) with h | h | h | h | h | h | h | h | h | h | h
  · obtain ⟨a1, a2⟩ := h
    go_enter Try.func24, Try.ntmps24
    go_wp2
    go_ret2
    exact ⟨ret_dig (v1 c a1 a2), rfl⟩
  · obtain ⟨a1, a2⟩ := h
    go_enter Try.func24, Try.ntmps24
    go_wp2
    go_ret2
    exact ⟨ret_dig (v2 c a1 a2), rfl⟩
  · obtain ⟨a1, a2⟩ := h
    go_enter Try.func24, Try.ntmps24
    go_wp2
    go_ret2
    exact ⟨ret_dig (v3 c a1 a2), rfl⟩
  · subst h
    go_enter Try.func24, Try.ntmps24
    go_wp2
    go_ret2
    exact ⟨ret_dig v4, rfl⟩
  · subst h
    go_enter Try.func24, Try.ntmps24
    go_wp2
    go_ret2
    exact ⟨ret_dig v5, rfl⟩
  · have e := v6 c (by omega) (by omega) (by omega) (by omega) (by omega)
    have H : Hid (digV c = 0 ∧ digOk c = false) := e
    clear e
    go_enter Try.func24, Try.ntmps24
    go_wp2
    go_ret2
    exact ⟨ret_dig H.out, rfl⟩
  · obtain ⟨a1, a2⟩ := h
    have e := v6 c (by omega) (by omega) (by omega) (by omega) (by omega)
    have H : Hid (digV c = 0 ∧ digOk c = false) := e
    clear e
    go_enter Try.func24, Try.ntmps24
    go_wp2
    go_ret2
    exact ⟨ret_dig H.out, rfl⟩
  · subst h
    go_enter Try.func24, Try.ntmps24
    go_wp2
    go_ret2
    exact ⟨ret_dig (v6 96 (by omega) (by omega) (by omega) (by omega) (by omega)), rfl⟩
  · obtain ⟨a1, a2⟩ := h
    have e := v6 c (by omega) (by omega) (by omega) (by omega) (by omega)
    have H : Hid (digV c = 0 ∧ digOk c = false) := e
    clear e
    go_enter Try.func24, Try.ntmps24
    go_wp2
    go_ret2
    exact ⟨ret_dig H.out, rfl⟩
  · obtain ⟨a1, a2⟩ := h
    have e := v6 c (by omega) (by omega) (by omega) (by omega) (by omega)
    have H : Hid (digV c = 0 ∧ digOk c = false) := e
    clear e
    go_enter Try.func24, Try.ntmps24
    go_wp2
    go_ret2
    exact ⟨ret_dig H.out, rfl⟩
  · have e := v6 c (by omega) (by omega) (by omega) (by omega) (by omega)
    have H : Hid (digV c = 0 ∧ digOk c = false) := e
    clear e
    go_enter Try.func24, Try.ntmps24
    go_wp2
    go_ret2
    exact ⟨ret_dig H.out, rfl⟩

/-- its shim -/
theorem digit_shim (c : Int) (h0 : 0 ≤ c) (h1 : c ≤ 255) (w : World) :
    Calls Try.prog 8 #[.int .u8 c] w fun e w' => e = .returned (.tuple #[.int .u8 (digV c), .bool (digOk c)]) ∧ w' = w := by
  go_enter Try.func8, Try.ntmps8
  go_wp2_with (go_at_call 24; refine (digit_any _ h0 h1 _).mono ?_; rintro e w' ⟨rfl, rfl⟩)
  go_ret2
  exact ⟨rfl, rfl⟩

/-! ### the alphabet, as the text has it -/
def AB : ByteArray := ⟨#[65, 66, 67, 68, 69, 70, 71, 72, 73, 74, 75, 76, 77, 78, 79, 80, 81, 82, 83, 84, 85, 86, 87, 88, 89, 90, 97, 98, 99, 100, 101, 102, 103, 104, 105, 106, 107, 108, 109, 110, 111, 112, 113, 114, 115, 116, 117, 118, 119, 120, 121, 122, 48, 49, 50, 51, 52, 53, 54, 55, 56, 57, 45, 95]⟩
theorem AB_at : ∀ (k : Nat) (h : k < AB.size), ((AB[k]'h).toNat : Int) = alph k := by
  have all : ∀ k : Fin 64, (((AB[k.val]'(show k.val < AB.size from k.isLt)).toNat : Nat) : Int) = alph (k.val : Int) := by decide +kernel
  intro k h
  exact all ⟨k, h⟩
theorem ab_at (k : Nat) (h : k < 64) : (((⟨#[65, 66, 67, 68, 69, 70, 71, 72, 73, 74, 75, 76, 77, 78, 79, 80, 81, 82, 83, 84, 85, 86, 87, 88, 89, 90, 97, 98, 99, 100, 101, 102, 103, 104, 105, 106, 107, 108, 109, 110, 111, 112, 113, 114, 115, 116, 117, 118, 119, 120, 121, 122, 48, 49, 50, 51, 52, 53, 54, 55, 56, 57, 45, 95]⟩ : ByteArray)[k]'(h)).toNat : Int) = alph k := AB_at k h

/-- zzSextet -/
theorem sextet_any (c : Int) (h0 : 0 ≤ c) (h1 : c ≤ 255) (w : World) :
    Calls Try.prog 9 #[.int .u8 c] w fun e w' => e = .returned (.int .i64 (sext c)) ∧ w' = w := by
  go_enter Try.func9, Try.ntmps9
  go_wp2
  go_loop [3] (fun i => ∃ k : Nat, k ≤ 64 ∧ i = .int .i64 k ∧ ∀ j : Nat, j < k → alph j ≠ c) (fun i => 64 - (intOf i).toNat)
  case atStart => exact ⟨0, by omega, rfl, fun j hj => absurd hj (Nat.not_lt_zero _)⟩
  case round =>
    obtain ⟨k, hk, rfl, hne⟩ := hrel
    have HN : Hid (∀ j : Nat, j < k → alph j ≠ c) := hne
    clear hne
    by_cases hlt : k < 64
    · have ha := ab_at k hlt
      by_cases hc : alph k = c
      · have HS : Hid (sext c = k) := sext_hit c k (by omega) (by omega) hc
        have hd : (alph k == c) = true := by simpa using hc
        clear hc
        go_wp2
        go_ret
        exact ⟨ret_int HS.out.symm, rfl⟩
      · have hd : (alph k == c) = false := by simpa using hc
        have HC : Hid (¬ alph k = c) := hc
        clear hc
        go_wp2
        go_round
        case rel =>
          refine ⟨k + 1, by omega, by go_num, ?_⟩
          intro j hj
          by_cases e : j = k
          · subst e; exact HC.out
          · exact HN.out j (by omega)
        case measure => simp [intOf]; omega
    · have e : k = 64 := by omega
      subst e
      have HS : Hid (sext c = -1) := sext_miss c HN.out
      go_wp2
      go_ret
      exact ⟨ret_int HS.out.symm, rfl⟩
end Go.Proofs.Qxb6605459a
