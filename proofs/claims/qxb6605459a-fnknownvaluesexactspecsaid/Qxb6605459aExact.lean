/-
  THE WALK OF FnKnownValuesExactSpec (6).
-/
import Derived.Test.Qxb6605459aKnownWalk
import Derived.Deep.RegionWith
namespace Go.Proofs.Qxb6605459a
open Go.RowKit
open KV
open Go.Lib (idxOfS idxFromS containsS containsS_iff idxOfS_nonneg_iff idxOfS_hit idxOfS_miss bytes_beq_iff bytes_beq_false_iff)
set_option linter.unusedVariables false

/-- Where the value before the k-th stands. -/
def prevAt (ws V : List ByteArray) : Nat → Int
  | 0 => -1
  | k + 1 => idxOfS ws (V.getD k ByteArray.empty)

theorem prev_lt (ws kn : List ByteArray) (k : Nat) (h : k < (kv ws kn).1.length) : prevAt ws (kv ws kn).1 k < idxOfS ws ((kv ws kn).1.getD k ByteArray.empty) := by
  cases k with
  | zero => have := kv_idx_nonneg ws kn 0 h; show -1 < _; omega
  | succ k => exact kv_next ws kn k h

set_option maxHeartbeats 2000000 in
theorem exact_walk (a0 a1 : Option Addr) (n0 k0 n1 k1 : Nat) (s0 s1 : List ByteArray) (w : World) (hr0 : RowS w a0 n0 s0) (hr1 : RowS w a1 n1 s1) (hm0 : n0 ≤ maxLen) (hm1 : n1 ≤ maxLen)
    (hl0 : a0 = none → n0 = 0 ∧ k0 = 0) (hl1 : a1 = none → n1 = 0 ∧ k1 = 0) :
    Calls Try.prog 6 #[.slice a0 n0 k0, .slice a1 n1 k1] w fun e w' => e = .returned (.bool true) ∧ Below w.heap.size w w' := by
  have hx0 : n0 ≤ 9223372036854775807 := hm0
  have hx1 : n1 ≤ 9223372036854775807 := hm1
  go_enter Try.func6, Try.ntmps6
  go_wp2_with fail
  refine (total_exact _ _ _ _ _ _ s0 s1 _ hm0 hm1 hr0 hr1).mono ?_
  rintro e w' ⟨⟨y, rfl⟩, rfl⟩
  clear hm0 hm1
  cases y
  · go_wp2_with fail
    go_ret
    exact ⟨rfl, Below.refl _ _⟩
  by_cases hb0 : 4096 < (n0 : Int)
  · go_wp2_with fail
    go_ret
    exact ⟨rfl, Below.refl _ _⟩
  by_cases hb1 : 4096 < (n1 : Int)
  · go_wp2_with fail
    go_ret
    exact ⟨rfl, Below.refl _ _⟩
  have h4 : n0 ≤ 4096 := by omega
  have h5 : n1 ≤ 4096 := by omega
  have h6 : n0 ≤ 1048576 := by omega
  have h7 : n1 ≤ 1048576 := by omega
  go_wp2_with fail
  refine (strbytes_any _ _ _ s0 _ h6 hr0).mono ?_
  rintro e w2 ⟨⟨y0, rfl⟩, rfl⟩
  go_wp2_with fail
  refine (strbytes_any _ _ _ s1 _ h7 hr1).mono ?_
  rintro e w3 ⟨⟨y1, rfl⟩, rfl⟩
  by_cases hsum : 1048576 < wrap64 (y0 + y1)
  · go_wp2_with fail
    go_ret
    exact ⟨rfl, Below.refl _ _⟩
  go_wp2_with fail
  refine (clones_any _ _ _ s0 _ h6 hr0 hl0).mono ?_
  rintro e wa ⟨a2, k2, rfl, ra, hBa⟩
  have rb1 : RowS wa a1 n1 s1 := hr1.below (B := 0) hBa
  clear hr0 hr1
  go_wp2_with fail
  refine (clones_any _ _ _ s1 _ h7 rb1 hl1).mono ?_
  rintro e wb ⟨a3, k3, rfl, rb, hBb⟩
  have ra' : RowS wb a2 n0 s0 := ra.below (B := 0) hBb
  have hB1 : Below w3.heap.size w3 wb := hBa.trans (hBb.mono hBa.size)
  have hS1 := hB1.size
  clear ra rb1 hBa hBb
  go_wp2_with fail
  refine (known_shim _ _ _ _ _ _ s0 s1 _ h4 h5 ra' rb).mono ?_
  rintro e wc ⟨v, rfl, hown, hBc⟩
  have ra2 := ra'.below (B := 0) hBc
  have rb2 := rb.below (B := 0) hBc
  have hB2 : Below w3.heap.size w3 wc := hB1.trans (hBc.mono hS1)
  clear ra' rb hBc hB1 hS1
  have g1 := kv_ok s0 s1
  have g2 := kv_len s0 s1
  have g3 := prev_lt s0 s1
  have g4 := fun v => kv_mem s0 s1 v
  obtain ⟨V, hV⟩ : ∃ V, V = (kv s0 s1).1 := ⟨_, rfl⟩
  obtain ⟨ok, hok⟩ : ∃ ok, ok = (kv s0 s1).2 := ⟨_, rfl⟩
  rw [← hV] at hown g2 g3
  rw [← hok] at g1 ⊢
  have g4' : ∀ v, v ∈ V ↔ v ∈ s0 ∧ v ∈ s1 := by rw [hV]; exact g4
  clear hV hok g4
  have z0 := ra2.1
  have z1 := rb2.1
  rw [z0] at g2
  have G1 : Hid (ok = s0.all (fun w => containsS s1 w)) := g1
  have G3 : Hid (∀ k, k < V.length → prevAt s0 V k < idxOfS s0 (V.getD k ByteArray.empty)) := g3
  have G4 : Hid (∀ v, v ∈ V ↔ v ∈ s0 ∧ v ∈ s1) := g4'
  have Z0 : Hid (s0.length = n0) := z0
  have Z1 : Hid (s1.length = n1) := z1
  clear g1 g3 g4' z0 z1
  obtain ⟨av, kw, rfl, rv⟩ := hown.slice
  clear hown
  have h9 : V.length ≤ 1048576 := by omega
  go_wp2_with fail
  go_loop [7, 8] (fun al i => ∃ k : Nat, k ≤ n0 ∧ i = .int .i64 k ∧ al = .bool ((s0.take k).all (fun w => containsS s1 w))) (fun _ i => n0 - (intOf i).toNat)
  case atStart => exact ⟨0, Nat.zero_le _, rfl, rfl⟩
  case round =>
    obtain ⟨k, hk, rfl, rfl⟩ := hrel
    by_cases hlt : k < n0
    · obtain ⟨b, off, s, rfl, hc, HS⟩ := ra2.at k hlt
      have HT : Hid ((s0.take (k + 1)).all (fun w => containsS s1 w) = ((s0.take k).all (fun w => containsS s1 w) && containsS s1 s)) := by
        show List.all _ _ = _
        rw [take_snoc s0 k (by rw [Z0.out]; exact hlt), List.all_append, ← HS.out]; simp
      cases hd : containsS s1 s
      · go_wp2_with (go_at_call 20; refine (has_any _ _ _ s1 _ _ h7 rb2).mono ?_; rw [hd]; rintro e w' ⟨rfl, rfl⟩)
        go_round
        case rel => exact ⟨k + 1, by omega, by go_num, by rw [HT.out, hd]; simp⟩
        case measure => simp [intOf]; omega
      · go_wp2_with (go_at_call 20; refine (has_any _ _ _ s1 _ _ h7 rb2).mono ?_; rw [hd]; rintro e w' ⟨rfl, rfl⟩)
        go_round
        case rel => exact ⟨k + 1, by omega, by go_num, by rw [HT.out, hd]; simp⟩
        case measure => simp [intOf]; omega
    · have e : k = n0 := by omega
      subst e
      rw [show s0.take k = s0 from List.take_of_length_le (by rw [Z0.out]; exact Nat.le_refl _), ← G1.out]
      have hoo : (ok == ok) = true := by simp
      have g2i : ¬ ((k : Int) < (V.length : Int)) := by omega
      go_wp2_with fail
      go_loop [9, 10] (fun p i => ∃ j : Nat, j ≤ V.length ∧ i = .int .i64 j ∧ p = .int .i64 (prevAt s0 V j)) (fun _ i => V.length - (intOf i).toNat)
      case atStart => exact ⟨0, Nat.zero_le _, rfl, rfl⟩
      case round =>
        obtain ⟨j, hj, rfl, rfl⟩ := hrel
        by_cases hlt2 : j < V.length
        · obtain ⟨b, off, s, rfl, hc, HS⟩ := rv.at j hlt2
          have hp : prevAt s0 V j < idxOfS s0 s := by rw [HS.out]; exact G3.out j hlt2
          have hd : containsS s1 s = true := by
            rw [containsS_iff, HS.out]; exact ((G4.out _).mp (getD_mem V j hlt2)).2
          have HP : Hid (prevAt s0 V (j + 1) = idxOfS s0 s) := by show idxOfS s0 _ = _; rw [HS.out]
          go_wp2_with (first | (go_at_call 21; refine (first_any _ _ _ s0 _ _ h6 ra2).mono ?_; rintro e w' ⟨rfl, rfl⟩) | (go_at_call 20; refine (has_any _ _ _ s1 _ _ h7 rb2).mono ?_; rw [hd]; rintro e w' ⟨rfl, rfl⟩))
          go_round
          case rel => exact ⟨j + 1, by omega, by go_num, by rw [HP.out]⟩
          case measure => simp [intOf]; omega
        · go_wp2_with fail
          go_loop [12] (fun i => ∃ j : Nat, j ≤ k ∧ i = .int .i64 j) (fun i => k - (intOf i).toNat)
          case atStart => exact ⟨0, Nat.zero_le _, rfl⟩
          case round =>
            obtain ⟨i, hi, rfl⟩ := hrel
            by_cases hlt3 : i < k
            · obtain ⟨b, off, s, rfl, hc, HS⟩ := ra2.at i hlt3
              cases hd : containsS s1 s
              · go_wp2_with (go_at_call 20; refine (has_any _ _ _ s1 _ _ h7 rb2).mono ?_; rw [hd]; rintro e w' ⟨rfl, rfl⟩)
                go_round
                case rel => exact ⟨i + 1, by omega, by go_num⟩
                case measure => simp [intOf]; omega
              · have hv : containsS V s = true := by
                  rw [containsS_iff] at hd ⊢
                  refine (G4.out _).mpr ⟨?_, hd⟩
                  rw [HS.out]; exact getD_mem s0 i (by rw [Z0.out]; exact hlt3)
                go_wp2_with (first | (go_at_call_of 20 (Value.slice a3 n1 k3); refine (has_any _ _ _ s1 _ _ h7 rb2).mono ?_; rw [hd]; rintro e w' ⟨rfl, rfl⟩) | (go_at_call 20; refine (has_any _ _ _ V _ _ h9 rv).mono ?_; rw [hv]; rintro e w' ⟨rfl, rfl⟩))
                go_round
                case rel => exact ⟨i + 1, by omega, by go_num⟩
                case measure => simp [intOf]; omega
            · go_wp2_with fail
              go_ret
              exact ⟨rfl, hB2⟩
end Go.Proofs.Qxb6605459a
