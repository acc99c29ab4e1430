/-
  knownValues (26) and its shim (19).
-/
import Derived.Test.Qxb6605459aStrs2
namespace Go.Proofs.Qxb6605459a
open Go.RowKit
open KV
open Go.Lib (idxOfS idxFromS containsS containsS_iff idxOfS_nonneg_iff idxOfS_hit idxOfS_miss bytes_beq_iff bytes_beq_false_iff)
set_option linter.unusedVariables false

theorem idxFrom_found (v : ByteArray) : ∀ (l : List ByteArray) (i : Nat), v ∈ l → ∃ j, j < l.length ∧ idxFromS l v i = ((i + j : Nat) : Int) ∧ l.getD j ByteArray.empty = v
  | [], i, h => by simp at h
  | x :: l, i, h => by
    by_cases hx : x = v
    · exact ⟨0, by simp, by simp [idxFromS, hx], by simpa using hx⟩
    · have hx' : ¬ v = x := fun e => hx e.symm
      obtain ⟨j, h1, h2, h3⟩ := idxFrom_found v l (i + 1) (by simpa [hx'] using h)
      refine ⟨j + 1, by simpa using h1, ?_, by simpa using h3⟩
      simp only [idxFromS, if_neg hx, h2]
      congr 1
      omega
theorem idx_found (l : List ByteArray) (v : ByteArray) (h : containsS l v = true) : ∃ j : Nat, j < l.length ∧ idxOfS l v = (j : Int) ∧ l.getD j ByteArray.empty = v := by
  obtain ⟨j, h1, h2, h3⟩ := idxFrom_found v l 0 ((containsS_iff _ _).mp h)
  exact ⟨j, h1, by simpa [idxOfS] using h2, h3⟩
theorem idx_neg (l : List ByteArray) (v : ByteArray) (h : containsS l v = false) : idxOfS l v < 0 := by
  unfold containsS at h
  have := of_decide_eq_false h
  omega

set_option maxHeartbeats 1000000 in
theorem known_any (a a' : Option Addr) (n n' c c' : Nat) (ws kn : List ByteArray) (w : World) (hn : n ≤ 4096) (hn' : n' ≤ 4096) (hr : RowS w a n ws) (hr' : RowS w a' n' kn) :
    Calls Try.prog 26 #[.slice a n c, .slice a' n' c'] w fun e w' => ∃ v, e = .returned (.tuple #[v, .bool (kv ws kn).2]) ∧ OwnS w' w.heap.size v (kv ws kn).1 ∧ Below w.heap.size w w' := by
  have HZ : Hid (ws.length = n) := hr.1
  have HZ' : Hid (kn.length = n') := hr'.1
  go_enter Try.func26, Try.ntmps26
  go_wp2
  go_loopw [6, 7, 13] (fun v ok i wr => ∃ k : Nat, k ≤ n ∧ i = .int .i64 k ∧ OwnS wr w.heap.size v (kv (ws.take k) kn).1 ∧ ok = .bool (kv (ws.take k) kn).2 ∧ Below w.heap.size w wr) (fun _ _ i _ => n - (intOf i).toNat)
  case atStart => exact ⟨0, Nat.zero_le _, rfl, World.ownsRow_nil _ _ _ _, rfl, Below.refl _ _⟩
  case round =>
    obtain ⟨k, hk, rfl, hown, rfl, hB⟩ := hrel
    have hsz := hB.size
    by_cases hlt : k < n
    · obtain ⟨b, off, s, rfl, hc, HS⟩ := (hr.below (B := 0) hB).at k hlt
      have HT : Hid (kv (ws.take (k + 1)) kn = kstep kn (kv (ws.take k) kn) s) := by
        show kv _ _ = _
        rw [take_snoc ws k (by rw [HZ.out]; exact hlt), kv_snoc, HS.out]
      have hkl := kv_len (ws.take k) kn
      have hkl' : (ws.take k).length ≤ k := List.length_take_le _ _
      obtain ⟨D, hD⟩ : ∃ D, D = kv (ws.take k) kn := ⟨_, rfl⟩
      rw [← hD] at hown HT hkl ⊢
      clear hD HS
      obtain ⟨L, ok⟩ := D
      dsimp only at hown hkl ⊢
      obtain ⟨av, cv, rfl, hrv⟩ := hown.slice
      have hrk := hr'.below (B := 0) hB
      have hl1 : L.length ≤ 1048576 := by omega
      have hl2 : n' ≤ 1048576 := by omega
      have hl3 : L.length + 1 ≤ 1048576 := by omega
      cases hk1 : containsS kn s
      · have hi := idx_neg kn s hk1
        have HT2 : Hid (kv (ws.take (k + 1)) kn = (L, false)) := by show kv _ _ = _; rw [HT.out, kstep_no _ _ _ hk1]
        clear HT
        go_wp2_with (go_at_call 27; refine (index_any _ _ _ kn _ _ hl2 hrk).mono ?_; rintro e w' ⟨rfl, rfl⟩)
        go_roundw
        case rel => exact ⟨k + 1, by omega, by go_num, by rw [HT2.out]; exact hown, by rw [HT2.out], hB⟩
        case measure => simp [intOf]; omega
      · obtain ⟨j, hj, hij, hjs⟩ := idx_found kn s hk1
        have HJ : Hid (idxOfS kn s = (j : Int)) := hij
        cases hk2 : containsS L s
        · have HT2 : Hid (kv (ws.take (k + 1)) kn = (L ++ [s], ok)) := by show kv _ _ = _; rw [HT.out, kstep_new _ _ _ hk1 hk2]
          clear HT hij
          rw [HZ'.out] at hj
          obtain ⟨b', off', s', rfl, hc', HS'⟩ := hrk.at j hj
          obtain rfl : s' = s := by rw [HS'.out, hjs]
          clear HS' hjs
          go_wp2_with (first | (go_at_call 27; refine (index_any _ _ _ kn _ _ hl2 hrk).mono ?_; rw [HJ.out]; rintro e w' ⟨rfl, rfl⟩) | (go_at_call 28; refine (contains_any _ _ _ L _ _ hl1 hrv).mono ?_; rw [hk2]; rintro e w' ⟨rfl, rfl⟩) | (at_builtin; refine wpList_append_str rfl (.tmp 28) (.tmp 33) rfl w.heap.size _ L s' hown rfl rfl hl3 hsz ?_; intro v1 w1 hown1 hB1 hs1))
          go_roundw
          case rel => exact ⟨k + 1, by omega, by go_num, by rw [HT2.out]; exact hown1, by rw [HT2.out], hB.trans hB1⟩
          case measure => simp [intOf]; omega
        · have HT2 : Hid (kv (ws.take (k + 1)) kn = (L, ok)) := by show kv _ _ = _; rw [HT.out, kstep_old _ _ _ hk1 hk2]
          clear HT hij
          go_wp2_with (first | (go_at_call 27; refine (index_any _ _ _ kn _ _ hl2 hrk).mono ?_; rw [HJ.out]; rintro e w' ⟨rfl, rfl⟩) | (go_at_call 28; refine (contains_any _ _ _ L _ _ hl1 hrv).mono ?_; rw [hk2]; rintro e w' ⟨rfl, rfl⟩))
          go_roundw
          case rel => exact ⟨k + 1, by omega, by go_num, by rw [HT2.out]; exact hown, by rw [HT2.out], hB⟩
          case measure => simp [intOf]; omega
    · have e : k = n := by omega
      subst e
      rw [show ws.take k = ws from List.take_of_length_le (by rw [HZ.out]; exact Nat.le_refl _)] at hown ⊢
      go_wp2
      go_ret2
      exact ⟨_, rfl, hown, hB⟩

theorem known_shim (a a' : Option Addr) (n n' c c' : Nat) (ws kn : List ByteArray) (w : World) (hn : n ≤ 4096) (hn' : n' ≤ 4096) (hr : RowS w a n ws) (hr' : RowS w a' n' kn) :
    Calls Try.prog 19 #[.slice a n c, .slice a' n' c'] w fun e w' => ∃ v, e = .returned (.tuple #[v, .bool (kv ws kn).2]) ∧ OwnS w' w.heap.size v (kv ws kn).1 ∧ Below w.heap.size w w' := by
  go_enter Try.func19, Try.ntmps19
  go_wp2_with (go_at_call 26; refine (known_any _ _ _ _ _ _ ws kn _ hn hn' hr hr').mono ?_; rintro e w' ⟨v, rfl, hown, hB⟩)
  go_ret2
  exact ⟨_, rfl, hown, hB⟩
end Go.Proofs.Qxb6605459a
