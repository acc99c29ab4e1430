/-
  THE WALK OF FnKnownValuesStableAndBounded (7).
-/
import Derived.Test.Qxb6605459aKnownWalk
namespace Go.Proofs.Qxb6605459a
open Go.RowKit
open KV
open Go.Lib (idxOfS idxFromS containsS containsS_iff idxOfS_nonneg_iff idxOfS_hit idxOfS_miss bytes_beq_iff bytes_beq_false_iff)
set_option linter.unusedVariables false

theorem OwnS.len {w : World} {base : Nat} {v : Value} {ss : List ByteArray} (h : OwnS w base v ss) : ∃ a cap, v = .slice a ss.length cap ∧ RowS w a ss.length ss := h.slice

set_option maxHeartbeats 1000000 in
theorem stable_walk (a0 a1 : Option Addr) (n0 k0 n1 k1 : Nat) (s0 s1 : List ByteArray) (w : World) (hr0 : RowS w a0 n0 s0) (hr1 : RowS w a1 n1 s1) (hm0 : n0 ≤ maxLen) (hm1 : n1 ≤ maxLen)
    (hl0 : a0 = none → n0 = 0 ∧ k0 = 0) (hl1 : a1 = none → n1 = 0 ∧ k1 = 0) :
    Calls Try.prog 7 #[.slice a0 n0 k0, .slice a1 n1 k1] w fun e w' => e = .returned (.bool true) ∧ Below w.heap.size w w' := by
  have hx0 : n0 ≤ 9223372036854775807 := hm0
  have hx1 : n1 ≤ 9223372036854775807 := hm1
  go_enter Try.func7, Try.ntmps7
  go_wp2_with fail
  refine (total_stable _ _ _ _ _ _ s0 s1 _ hm0 hm1 hr0 hr1).mono ?_
  rintro e w' ⟨⟨y, rfl⟩, rfl⟩
  clear hm0 hm1
  cases y
  · go_wp2_with fail
    go_ret
    exact ⟨rfl, Below.refl _ _⟩
  by_cases hb0 : 4096 < (n0 : Int)
  · go_wp2_with fail
    go_ret
    exact ⟨rfl, Below.refl _ _⟩
  by_cases hb1 : 4096 < (n1 : Int)
  · go_wp2_with fail
    go_ret
    exact ⟨rfl, Below.refl _ _⟩
  have h4 : n0 ≤ 4096 := by omega
  have h5 : n1 ≤ 4096 := by omega
  have h6 : n0 ≤ 1048576 := by omega
  have h7 : n1 ≤ 1048576 := by omega
  go_wp2_with fail
  refine (strbytes_any _ _ _ s0 _ h6 hr0).mono ?_
  rintro e w2 ⟨⟨y0, rfl⟩, rfl⟩
  go_wp2_with fail
  refine (strbytes_any _ _ _ s1 _ h7 hr1).mono ?_
  rintro e w3 ⟨⟨y1, rfl⟩, rfl⟩
  by_cases hsum : 1048576 < wrap64 (y0 + y1)
  · go_wp2_with fail
    go_ret
    exact ⟨rfl, Below.refl _ _⟩
  go_wp2_with fail
  refine (clones_any _ _ _ s0 _ h6 hr0 hl0).mono ?_
  rintro e wa ⟨a2, k2, rfl, ra, hBa⟩
  have rb1 : RowS wa a1 n1 s1 := hr1.below (B := 0) hBa
  clear hr0 hr1
  go_wp2_with fail
  refine (clones_any _ _ _ s1 _ h7 rb1 hl1).mono ?_
  rintro e wb ⟨a3, k3, rfl, rb, hBb⟩
  have ra' : RowS wb a2 n0 s0 := ra.below (B := 0) hBb
  have hB1 : Below w3.heap.size w3 wb := hBa.trans (hBb.mono hBa.size)
  have hS1 := hB1.size
  clear ra rb1 hBa hBb
  go_wp2_with fail
  refine (known_shim _ _ _ _ _ _ s0 s1 _ h4 h5 ra' rb).mono ?_
  rintro e wc ⟨v, rfl, hown, hBc⟩
  have ra2 := ra'.below (B := 0) hBc
  have rb2 := rb.below (B := 0) hBc
  have hB2 : Below w3.heap.size w3 wc := hB1.trans (hBc.mono hS1)
  clear ra' rb hBc hB1 hS1
  have hS2 := hB2.size
  have g1 := kv_again s0 s1
  have g2 := kv_within s0 s1
  have g3 := kv_bounded s0 s1
  have g4 := kv_len s0 s1
  have z0 := ra2.1
  have z1 := rb2.1
  obtain ⟨V, hV⟩ : ∃ V, V = (kv s0 s1).1 := ⟨_, rfl⟩
  obtain ⟨ok, hok⟩ : ∃ ok, ok = (kv s0 s1).2 := ⟨_, rfl⟩
  have e0 : kv s0 s1 = (V, ok) := by rw [hV, hok]
  rw [← hV] at hown g1 g2 g3 g4
  rw [← hok]
  rw [e0] at g2
  clear hV hok e0
  rw [z1] at g3
  rw [z0] at g4
  clear z0 z1
  have G1 : Hid (kv V s1 = (V, true)) := g1
  have G2 : Hid (kv s0 V = (V, ok)) := g2
  clear g1 g2
  obtain ⟨av, kw, rfl, rv⟩ := hown.slice
  have h8 : V.length ≤ 4096 := by omega
  have h9 : V.length ≤ 1048576 := by omega
  clear hown
  go_wp2_with fail
  refine (known_shim _ _ _ _ _ _ V s1 _ h8 h5 rv rb2).mono ?_
  rw [G1.out]
  rintro e wd ⟨v2, rfl, hown2, hBd⟩
  have ra3 := ra2.below (B := 0) hBd
  have rv3 := rv.below (B := 0) hBd
  have hB3 : Below w3.heap.size w3 wd := hB2.trans (hBd.mono hS2)
  clear ra2 rb2 rv hBd hB2 hS2
  have hS3 := hB3.size
  obtain ⟨av2, kw2, rfl, rv2⟩ := hown2.slice
  clear hown2
  go_wp2_with fail
  refine (known_shim _ _ _ _ _ _ s0 V _ h4 h8 ra3 rv3).mono ?_
  rw [G2.out]
  rintro e we ⟨v3, rfl, hown3, hBe⟩
  have rv4 := rv3.below (B := 0) hBe
  have rv24 := rv2.below (B := 0) hBe
  have hB4 : Below w3.heap.size w3 we := hB3.trans (hBe.mono hS3)
  clear ra3 rv3 rv2 hBe hB3 hS3
  have hS4 := hB4.size
  obtain ⟨av3, kw3, rfl, rv34⟩ := hown3.slice
  clear hown3
  go_wp2_with fail
  refine (same_any _ _ _ _ _ V _ h9 rv24 rv4).mono ?_
  rintro e wf ⟨rfl, hBf⟩
  have rv5 := rv4.below (B := 0) hBf
  have rv35 := rv34.below (B := 0) hBf
  have hB5 : Below w3.heap.size w3 wf := hB4.trans (hBf.mono hS4)
  clear rv4 rv24 rv34 hBf hB4 hS4
  have hS5 := hB5.size
  have hoo : (ok == ok) = true := by simp
  go_wp2_with fail
  refine (same_any _ _ _ _ _ V _ h9 rv35 rv5).mono ?_
  rintro e wg ⟨rfl, hBg⟩
  have hB6 : Below w3.heap.size w3 wg := hB5.trans (hBg.mono hS5)
  clear rv5 rv35 hBg hB5 hS5
  have hle : (V.length : Int) ≤ (n1 : Int) := by omega
  go_wp2_with fail
  go_ret
  exact ⟨rfl, hB6⟩
end Go.Proofs.Qxb6605459a
