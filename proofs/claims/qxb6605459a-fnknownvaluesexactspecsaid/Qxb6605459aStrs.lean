/-
  SLICES OF STRINGS: what is told of one that is read; slices.Index (27), slices.Contains (28), zzHas (20), zzFirst (21), zzSameStrings (23), zzStringBytes (17), zzCloneStrings (18).
-/
import Derived.Test.Qxb6605459aRows
import Derived.WalkKit
import Derived.ProofKit
import Derived.Deep.QuietTactic
import Derived.BigQuiet
import Derived.Lib.SliceRun
import Derived.Test.Qxb6605459aKnown
namespace Go.Proofs.Qxb6605459a
open Go.RowKit
open KV
open Go.Lib (idxOfS containsS containsS_iff idxOfS_nonneg_iff idxOfS_hit idxOfS_miss bytes_beq_iff bytes_beq_false_iff)
set_option linter.unusedVariables false

theorem rint {k : IntKind} {a b : Int} (h : a = b) : Ending.returned (.int k a) = .returned (.int k b) := by rw [h]
theorem rbool {a b : Bool} (h : a = b) : Ending.returned (.bool a) = .returned (.bool b) := by rw [h]

/-- The slice (a, n) holds the strings ss. -/
def RowS (w : World) (a : Option Addr) (n : Nat) (ss : List ByteArray) : Prop :=
  ss.length = n ∧ (0 < n → ∃ b off, a = some ⟨b, off, none⟩ ∧ b < w.heap.size ∧ ∀ i, i < n → w.cell? ⟨b, off + i, none⟩ = some (.string (ss.getD i ByteArray.empty)))

theorem RowS.at {w : World} {a : Option Addr} {n : Nat} {ss : List ByteArray} (h : RowS w a n ss) (k : Nat) (hk : k < n) :
    ∃ b off s, a = some ⟨b, off, none⟩ ∧ w.cell? ⟨b, off + k, none⟩ = some (.string s) ∧ Hid (s = ss.getD k ByteArray.empty) := by
  obtain ⟨b, off, ha, hb, hc⟩ := h.2 (by omega)
  exact ⟨b, off, _, ha, hc k hk, rfl⟩
theorem RowS.below {w w' : World} {a : Option Addr} {n : Nat} {ss : List ByteArray} {B : Nat} (h : RowS w a n ss) (hB : Below w.heap.size w w') : RowS w' a n ss := by
  refine ⟨h.1, fun hn => ?_⟩
  obtain ⟨b, off, ha, hb, hc⟩ := h.2 hn
  have hs := hB.size
  exact ⟨b, off, ha, by omega, fun i hi => (hB.cell (p := ⟨b, off + i, none⟩) hb).trans (hc i hi)⟩

theorem idx_hit (ss : List ByteArray) (k : Nat) (x : ByteArray) (hk : k < ss.length) (h : ss.getD k ByteArray.empty = x) (hne : ∀ j, j < k → ss.getD j ByteArray.empty ≠ x) : idxOfS ss x = k := by
  have := idxOfS_hit ss ss.length k x hk (Nat.le_refl _) h hne
  rwa [List.take_length] at this
theorem idx_miss (ss : List ByteArray) (x : ByteArray) (h : ∀ j, j < ss.length → ss.getD j ByteArray.empty ≠ x) : idxOfS ss x = -1 := by
  have := idxOfS_miss ss ss.length x h
  rwa [List.take_length] at this

/-- slices.Index -/
theorem index_any (a : Option Addr) (n c : Nat) (ss : List ByteArray) (x : ByteArray) (w : World) (hn : n ≤ 1048576) (hrow : RowS w a n ss) :
    Calls Try.prog 27 #[.slice a n c, .string x] w fun e w' => e = .returned (.int .i64 (idxOfS ss x)) ∧ w' = w := by
  have HL : Hid (ss.length = n) := hrow.1
  go_enter Try.func27, Try.ntmps27
  go_wp2
  go_loop [8] (fun i => ∃ k : Nat, k ≤ n ∧ i = .int .i64 k ∧ ∀ j, j < k → ss.getD j ByteArray.empty ≠ x) (fun i => n - (intOf i).toNat)
  case atStart => exact ⟨0, Nat.zero_le _, rfl, fun j hj => absurd hj (Nat.not_lt_zero _)⟩
  case round =>
    obtain ⟨k, hk, rfl, hne⟩ := hrel
    have HN : Hid (∀ j, j < k → ss.getD j ByteArray.empty ≠ x) := hne
    clear hne
    by_cases hlt : k < n
    · obtain ⟨b, off, s, rfl, hc, HS⟩ := hrow.at k hlt
      by_cases e : s = x
      · have he : (x.toList == s.toList) = true := (bytes_beq_iff _ _).mpr e.symm
        have HI : Hid (idxOfS ss x = k) := idx_hit ss k x (by rw [HL.out]; exact hlt) (by rw [← HS.out]; exact e) HN.out
        clear e
        go_wp2
        go_ret
        exact ⟨rint HI.out.symm, rfl⟩
      · have he : (x.toList == s.toList) = false := (bytes_beq_false_iff _ _).mpr (fun h => e h.symm)
        have HE : Hid (¬ s = x) := e
        clear e
        go_wp2
        go_round
        case rel =>
          refine ⟨k + 1, by omega, by go_num, ?_⟩
          intro j hj
          by_cases e : j = k
          · subst e; rw [← HS.out]; exact HE.out
          · exact HN.out j (by omega)
        case measure => simp [intOf]; omega
    · have e : k = n := by omega
      subst e
      have HI : Hid (idxOfS ss x = -1) := idx_miss ss x (by rw [HL.out]; exact HN.out)
      go_wp2
      go_ret
      exact ⟨rint HI.out.symm, rfl⟩

/-- zzFirst -/
theorem first_any (a : Option Addr) (n c : Nat) (ss : List ByteArray) (x : ByteArray) (w : World) (hn : n ≤ 1048576) (hrow : RowS w a n ss) :
    Calls Try.prog 21 #[.slice a n c, .string x] w fun e w' => e = .returned (.int .i64 (idxOfS ss x)) ∧ w' = w := by
  have HL : Hid (ss.length = n) := hrow.1
  go_enter Try.func21, Try.ntmps21
  go_wp2
  go_loop [5] (fun i => ∃ k : Nat, k ≤ n ∧ i = .int .i64 k ∧ ∀ j, j < k → ss.getD j ByteArray.empty ≠ x) (fun i => n - (intOf i).toNat)
  case atStart => exact ⟨0, Nat.zero_le _, rfl, fun j hj => absurd hj (Nat.not_lt_zero _)⟩
  case round =>
    obtain ⟨k, hk, rfl, hne⟩ := hrel
    have HN : Hid (∀ j, j < k → ss.getD j ByteArray.empty ≠ x) := hne
    clear hne
    by_cases hlt : k < n
    · obtain ⟨b, off, s, rfl, hc, HS⟩ := hrow.at k hlt
      by_cases e : s = x
      · have he : (s.toList == x.toList) = true := (bytes_beq_iff _ _).mpr e
        have HI : Hid (idxOfS ss x = k) := idx_hit ss k x (by rw [HL.out]; exact hlt) (by rw [← HS.out]; exact e) HN.out
        clear e
        go_wp2
        go_ret
        exact ⟨rint HI.out.symm, rfl⟩
      · have he : (s.toList == x.toList) = false := (bytes_beq_false_iff _ _).mpr e
        have HE : Hid (¬ s = x) := e
        clear e
        go_wp2
        go_round
        case rel =>
          refine ⟨k + 1, by omega, by go_num, ?_⟩
          intro j hj
          by_cases e : j = k
          · subst e; rw [← HS.out]; exact HE.out
          · exact HN.out j (by omega)
        case measure => simp [intOf]; omega
    · have e : k = n := by omega
      subst e
      have HI : Hid (idxOfS ss x = -1) := idx_miss ss x (by rw [HL.out]; exact HN.out)
      go_wp2
      go_ret
      exact ⟨rint HI.out.symm, rfl⟩

theorem has_hit (ss : List ByteArray) (k : Nat) (x : ByteArray) (hk : k < ss.length) (h : ss.getD k ByteArray.empty = x) : containsS ss x = true := by
  rw [containsS_iff, ← h]; exact getD_mem ss k hk
theorem has_miss (ss : List ByteArray) (x : ByteArray) (h : ∀ j, j < ss.length → ss.getD j ByteArray.empty ≠ x) : containsS ss x = false := by
  rw [containsS, idx_miss ss x h]; rfl

/-- zzHas -/
theorem has_any (a : Option Addr) (n c : Nat) (ss : List ByteArray) (x : ByteArray) (w : World) (hn : n ≤ 1048576) (hrow : RowS w a n ss) :
    Calls Try.prog 20 #[.slice a n c, .string x] w fun e w' => e = .returned (.bool (containsS ss x)) ∧ w' = w := by
  have HL : Hid (ss.length = n) := hrow.1
  go_enter Try.func20, Try.ntmps20
  go_wp2
  go_loop [5] (fun i => ∃ k : Nat, k ≤ n ∧ i = .int .i64 k ∧ ∀ j, j < k → ss.getD j ByteArray.empty ≠ x) (fun i => n - (intOf i).toNat)
  case atStart => exact ⟨0, Nat.zero_le _, rfl, fun j hj => absurd hj (Nat.not_lt_zero _)⟩
  case round =>
    obtain ⟨k, hk, rfl, hne⟩ := hrel
    have HN : Hid (∀ j, j < k → ss.getD j ByteArray.empty ≠ x) := hne
    clear hne
    by_cases hlt : k < n
    · obtain ⟨b, off, s, rfl, hc, HS⟩ := hrow.at k hlt
      by_cases e : s = x
      · have he : (s.toList == x.toList) = true := (bytes_beq_iff _ _).mpr e
        have HI : Hid (containsS ss x = true) := has_hit ss k x (by rw [HL.out]; exact hlt) (by rw [← HS.out]; exact e)
        clear e
        go_wp2
        go_ret
        exact ⟨rbool HI.out.symm, rfl⟩
      · have he : (s.toList == x.toList) = false := (bytes_beq_false_iff _ _).mpr e
        have HE : Hid (¬ s = x) := e
        clear e
        go_wp2
        go_round
        case rel =>
          refine ⟨k + 1, by omega, by go_num, ?_⟩
          intro j hj
          by_cases e : j = k
          · subst e; rw [← HS.out]; exact HE.out
          · exact HN.out j (by omega)
        case measure => simp [intOf]; omega
    · have e : k = n := by omega
      subst e
      have HI : Hid (containsS ss x = false) := has_miss ss x (by rw [HL.out]; exact HN.out)
      go_wp2
      go_ret
      exact ⟨rbool HI.out.symm, rfl⟩

/-- slices.Contains -/
theorem contains_any (a : Option Addr) (n c : Nat) (ss : List ByteArray) (x : ByteArray) (w : World) (hn : n ≤ 1048576) (hrow : RowS w a n ss) :
    Calls Try.prog 28 #[.slice a n c, .string x] w fun e w' => e = .returned (.bool (containsS ss x)) ∧ w' = w := by
  have HC : Hid (containsS ss x = decide (0 ≤ idxOfS ss x)) := rfl
  go_enter Try.func28, Try.ntmps28
  go_wp2_with (go_at_call 27; refine (index_any _ _ _ ss _ _ hn hrow).mono ?_; rintro e w' ⟨rfl, rfl⟩)
  go_ret
  exact ⟨rbool HC.out.symm, rfl⟩

/-- zzStringBytes: it answers some number. -/
theorem strbytes_any (a : Option Addr) (n c : Nat) (ss : List ByteArray) (w : World) (hn : n ≤ 1048576) (hrow : RowS w a n ss) :
    Calls Try.prog 17 #[.slice a n c] w fun e w' => (∃ y : Int, e = .returned (.int .i64 y)) ∧ w' = w := by
  go_enter Try.func17, Try.ntmps17
  go_wp2
  go_loop [3, 4] (fun t i => ∃ k : Nat, k ≤ n ∧ i = .int .i64 k ∧ ∃ y : Int, t = .int .i64 y) (fun _ i => n - (intOf i).toNat)
  case atStart => exact ⟨0, Nat.zero_le _, rfl, _, rfl⟩
  case round =>
    obtain ⟨k, hk, rfl, y, rfl⟩ := hrel
    by_cases hlt : k < n
    · obtain ⟨b, off, s, rfl, hc, HS⟩ := hrow.at k hlt
      go_wp2
      go_round
      case rel => exact ⟨k + 1, by omega, by go_num, _, rfl⟩
      case measure => simp [intOf]; omega
    · go_wp2
      go_ret
      exact ⟨⟨_, rfl⟩, rfl⟩
end Go.Proofs.Qxb6605459a
