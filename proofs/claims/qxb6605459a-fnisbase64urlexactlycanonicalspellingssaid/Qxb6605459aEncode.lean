/-
  THE WALK OF zzEncode (15).
-/
import Derived.Test.Qxb6605459aAppend
namespace Go.Proofs.Qxb6605459a
open Go.RowKit
open B64
set_option linter.unusedVariables false

/-- What the call is told of the slice of bytes that it reads. -/
def RowB (w : World) (b off n : Nat) (zs : List Int) : Prop := zs.length = n ∧ (∀ x ∈ zs, 0 ≤ x ∧ x ≤ 255) ∧ b < w.heap.size ∧ ∀ i, i < n → w.cell? ⟨b, off + i, none⟩ = some (.int .u8 (zs.getD i 0))

theorem RowB.cell {w wr : World} {b off n : Nat} {zs : List Int} (h : RowB w b off n zs) (hB : Below w.heap.size w wr) (k : Nat) (hk : k < n) : wr.cell? ⟨b, off + k, none⟩ = some (.int .u8 (zs.getD k 0)) :=
  (hB.cell (p := ⟨b, off + k, none⟩) h.2.2.1).trans (h.2.2.2 k hk)

theorem below_dr (B : Nat) (w : World) (n : Nat) : Below B w (w.drewN n) := ⟨rfl, rfl, rfl, Nat.le_refl _, fun _ _ => rfl⟩

set_option maxRecDepth 100000 in
set_option maxHeartbeats 1000000 in
theorem encode_any (b off n c : Nat) (zs : List Int) (w : World) (hn : n ≤ 1048576) (hrow : RowB w b off n zs) :
    Calls Try.prog 15 #[.slice (some ⟨b, off, none⟩) n c] w fun e w' => ∃ v, e = .returned v ∧ OwnB w' w.heap.size v (enc zs) ∧ Below w.heap.size w w' := by
  obtain ⟨i0, hi, hz0, hz1, hz2⟩ := info_parts Try.info5
  go_enter Try.func15, Try.ntmps15
  go_wp2_with (at_make; refine wpList_make_own _ rfl _ _ 27 rfl w.heap.size 5 i0 (.int .u8 0) 1 Try.underlying27 hi hz0 hz1 _ _ _ ((n + 2) / 3 * 4) rfl rfl (by omega) (by rw [hz2]; omega) (by unfold maxLen; omega) (by omega) ?_; intro w0 hown0 hgrow0)
  have hB0 : Below w.heap.size w w0 := (Below.refl _ _).grown hgrow0 (Nat.le_refl _) (fun k hk => by cases hk)
  clear hgrow0 hi hz0 hz1 hz2
  go_loopw [4, 5] (fun v i wr => ∃ k : Nat, k % 3 = 0 ∧ k ≤ n ∧ i = .int .i64 k ∧ OwnB wr w.heap.size v (enc (zs.take k)) ∧ Below w.heap.size w wr) (fun _ i _ => n - (intOf i).toNat)
  case atStart => exact ⟨0, rfl, Nat.zero_le _, rfl, hown0, hB0⟩
  case round =>
    obtain ⟨k, hk3, hk, rfl, hown, hB⟩ := hrel
    have hsz := hB.size
    by_cases hlt : k + 3 ≤ n
    · obtain ⟨x0, hx0⟩ : ∃ x, x = zs.getD k 0 := ⟨_, rfl⟩
      obtain ⟨x1, hx1⟩ : ∃ x, x = zs.getD (k + 1) 0 := ⟨_, rfl⟩
      obtain ⟨x2, hx2⟩ : ∃ x, x = zs.getD (k + 2) 0 := ⟨_, rfl⟩
      have c0 : wr.cell? ⟨b, off + k, none⟩ = some (.int .u8 x0) := by rw [hx0]; exact hrow.cell hB k (by omega)
      have c1 : wr.cell? ⟨b, off + (k + 1), none⟩ = some (.int .u8 x1) := by rw [hx1]; exact hrow.cell hB (k + 1) (by omega)
      have c2 : wr.cell? ⟨b, off + (k + 2), none⟩ = some (.int .u8 x2) := by rw [hx2]; exact hrow.cell hB (k + 2) (by omega)
      have r0 : 0 ≤ x0 ∧ x0 ≤ 255 := by rw [hx0]; exact getD_range zs hrow.2.1 k
      have r1 : 0 ≤ x1 ∧ x1 ≤ 255 := by rw [hx1]; exact getD_range zs hrow.2.1 (k + 1)
      have r2 : 0 ≤ x2 ∧ x2 ≤ 255 := by rw [hx2]; exact getD_range zs hrow.2.1 (k + 2)
      obtain ⟨X, hX⟩ : ∃ X, X = x0 * 65536 + x1 * 256 + x2 := ⟨_, rfl⟩
      have hor : bits .or .u32 (bits .or .u32 (x0 * 65536) (x1 * 256)) x2 = X := by rw [hX]; exact or3 x0 x1 x2 r0 r1 r2
      have hX0 : 0 ≤ X := by omega
      have hX1 : X < 16777216 := by omega
      obtain ⟨s0, l0, a0, e0⟩ := sextet_of (X / 262144) (by omega) (by omega)
      obtain ⟨s1, l1, a1, e1⟩ := sextet_of (X / 4096) (by omega) (by omega)
      obtain ⟨s2, l2, a2, e2⟩ := sextet_of (X / 64) (by omega) (by omega)
      obtain ⟨s3, l3, a3, e3⟩ := sextet_of X (by omega) (by omega)
      have HE : Hid (enc (zs.take (k + 3)) = enc (zs.take k) ++ [alph s0] ++ [alph s1] ++ [alph s2] ++ [alph s3]) := by
        show enc (zs.take (k + 3)) = _
        rw [take_three zs k (by rw [hrow.1]; exact hlt), enc_append _ _ (by rw [List.length_take, hrow.1]; omega), ← hx0, ← hx1, ← hx2, enc_three x0 x1 x2 X s0 s1 s2 s3 r0 r1 r2 hX e0 e1 e2 e3]
        simp
      clear e0 e1 e2 e3 hx0 hx1 hx2 hX
      have t0 := ab_at s0 l0
      have t1 := ab_at s1 l1
      have t2 := ab_at s2 l2
      have t3 := ab_at s3 l3
      obtain ⟨r0, r0'⟩ := r0
      obtain ⟨r1, r1'⟩ := r1
      obtain ⟨r2, r2'⟩ := r2
      have b0 : (k : Int) < (n : Int) := by omega
      have b1 : (k : Int) + 1 < (n : Int) := by omega
      have b2 : (k : Int) + 2 < (n : Int) := by omega
      have hl := enc_take_len zs k
      rw [hrow.1] at hl
      have f0 : (enc (zs.take k)).length + 1 ≤ 140737488355328 := by omega
      have f1 : (enc (zs.take k) ++ [alph s0]).length + 1 ≤ 140737488355328 := by simp; omega
      have f2 : (enc (zs.take k) ++ [alph s0] ++ [alph s1]).length + 1 ≤ 140737488355328 := by simp; omega
      have f3 : (enc (zs.take k) ++ [alph s0] ++ [alph s1] ++ [alph s2]).length + 1 ≤ 140737488355328 := by simp; omega
      go_wp2
      go_quiet (fail)
      go_wp2_with (first | (at_builtin; refine wpList_append_u8 rfl (.tmp 41) (.tmp 46) rfl w.heap.size _ (enc (zs.take k)) (alph s0) (hown.drewN _) rfl rfl f0 hsz ?_; intro v1 w1 hown1 hB1 hs1) | (at_builtin; refine wpList_append_u8 rfl (.tmp 48) (.tmp 53) rfl w.heap.size _ (enc (zs.take k) ++ [alph s0]) (alph s1) hown1 rfl rfl f1 hs1 ?_; intro v2 w2 hown2 hB2 hs2) | (at_builtin; refine wpList_append_u8 rfl (.tmp 55) (.tmp 60) rfl w.heap.size _ (enc (zs.take k) ++ [alph s0] ++ [alph s1]) (alph s2) hown2 rfl rfl f2 hs2 ?_; intro v3 w3 hown3 hB3 hs3) | (at_builtin; refine wpList_append_u8 rfl (.tmp 62) (.tmp 66) rfl w.heap.size _ (enc (zs.take k) ++ [alph s0] ++ [alph s1] ++ [alph s2]) (alph s3) hown3 rfl rfl f3 hs3 ?_; intro v4 w4 hown4 hB4 hs4))
      have R : OwnB w4 w.heap.size v4 (enc (zs.take (k + 3))) ∧ Below w.heap.size w w4 := ⟨by rw [HE.out]; exact hown4, (((hB.trans (below_dr _ _ _)).trans hB1).trans hB2).trans (hB3.trans hB4)⟩
      clear hown hown1 hown2 hown3 hown4
      go_roundw
      case rel => exact ⟨k + 3, by omega, by omega, by go_num, R.1, R.2⟩
      case measure => simp [intOf]; omega
    · have hz := hrow.1
      rcases (show k = n ∨ k + 1 = n ∨ k + 2 = n from by omega) with e | e | e
      · have HE : Hid (enc zs = enc (zs.take k)) := by
          show enc zs = _
          rw [List.take_of_length_le (by omega)]
        subst e
        clear hz
        go_wp2
        go_ret
        exact ⟨_, rfl, by rw [HE.out]; exact hown, hB⟩
      · obtain ⟨x0, hx0⟩ : ∃ x, x = zs.getD k 0 := ⟨_, rfl⟩
        have c0 : wr.cell? ⟨b, off + k, none⟩ = some (.int .u8 x0) := by rw [hx0]; exact hrow.cell hB k (by omega)
        have r0 : 0 ≤ x0 ∧ x0 ≤ 255 := by rw [hx0]; exact getD_range zs hrow.2.1 k
        obtain ⟨X, hX⟩ : ∃ X, X = x0 * 65536 := ⟨_, rfl⟩
        have hX0 : 0 ≤ X := by omega
        have hX1 : X < 16777216 := by omega
        obtain ⟨s0, l0, a0, e0⟩ := sextet_of (X / 262144) (by omega) (by omega)
        obtain ⟨s1, l1, a1, e1⟩ := sextet_of (X / 4096) (by omega) (by omega)
        have HE : Hid (enc zs = enc (zs.take k) ++ [alph s0] ++ [alph s1]) := by
          have t := enc_append (zs.take k) [zs.getD k 0] (by rw [List.length_take, hz]; omega)
          rw [← take_one zs k (by omega), ← hx0, enc_one x0 X s0 s1 r0 hX e0 e1] at t
          show enc zs = _
          rw [t]; simp
        clear e0 e1 hx0
        have t0 := ab_at s0 l0
        have t1 := ab_at s1 l1
        obtain ⟨r0, r0'⟩ := r0
        have b0 : (k : Int) < (n : Int) := by omega
        have hl := enc_take_len zs k
        rw [hz] at hl
        have f0 : (enc (zs.take k)).length + 1 ≤ 140737488355328 := by omega
        have f1 : (enc (zs.take k) ++ [alph s0]).length + 1 ≤ 140737488355328 := by simp; omega
        have hor : x0 * 65536 = X := hX.symm
        clear hX
        have en : (n : Int) = (k : Int) + 1 := by omega
        have HZ : Hid (zs.length = n) := hz
        clear hz
        subst e
        clear en
        go_wp2_with (first | (at_builtin; refine wpList_append_u8 rfl (.tmp 81) (.tmp 86) rfl w.heap.size _ (enc (zs.take k)) (alph s0) hown rfl rfl f0 hsz ?_; intro v1 w1 hown1 hB1 hs1) | (at_builtin; refine wpList_append_u8 rfl (.tmp 88) (.tmp 93) rfl w.heap.size _ (enc (zs.take k) ++ [alph s0]) (alph s1) hown1 rfl rfl f1 hs1 ?_; intro v2 w2 hown2 hB2 hs2))
        go_ret
        exact ⟨_, rfl, by rw [HE.out]; exact hown2, (hB.trans hB1).trans hB2⟩
      · obtain ⟨x0, hx0⟩ : ∃ x, x = zs.getD k 0 := ⟨_, rfl⟩
        obtain ⟨x1, hx1⟩ : ∃ x, x = zs.getD (k + 1) 0 := ⟨_, rfl⟩
        have c0 : wr.cell? ⟨b, off + k, none⟩ = some (.int .u8 x0) := by rw [hx0]; exact hrow.cell hB k (by omega)
        have c1 : wr.cell? ⟨b, off + (k + 1), none⟩ = some (.int .u8 x1) := by rw [hx1]; exact hrow.cell hB (k + 1) (by omega)
        have r0 : 0 ≤ x0 ∧ x0 ≤ 255 := by rw [hx0]; exact getD_range zs hrow.2.1 k
        have r1 : 0 ≤ x1 ∧ x1 ≤ 255 := by rw [hx1]; exact getD_range zs hrow.2.1 (k + 1)
        obtain ⟨X, hX⟩ : ∃ X, X = x0 * 65536 + x1 * 256 := ⟨_, rfl⟩
        have hor : bits .or .u32 (x0 * 65536) (x1 * 256) = X := by rw [hX]; exact or2 x0 x1 r0 r1
        have hX0 : 0 ≤ X := by omega
        have hX1 : X < 16777216 := by omega
        obtain ⟨s0, l0, a0, e0⟩ := sextet_of (X / 262144) (by omega) (by omega)
        obtain ⟨s1, l1, a1, e1⟩ := sextet_of (X / 4096) (by omega) (by omega)
        obtain ⟨s2, l2, a2, e2⟩ := sextet_of (X / 64) (by omega) (by omega)
        have HE : Hid (enc zs = enc (zs.take k) ++ [alph s0] ++ [alph s1] ++ [alph s2]) := by
          have t := enc_append (zs.take k) [zs.getD k 0, zs.getD (k + 1) 0] (by rw [List.length_take, hz]; omega)
          rw [← take_two zs k (by omega), ← hx0, ← hx1, enc_two x0 x1 X s0 s1 s2 r0 r1 hX e0 e1 e2] at t
          show enc zs = _
          rw [t]; simp
        clear e0 e1 e2 hx0 hx1 hX
        have t0 := ab_at s0 l0
        have t1 := ab_at s1 l1
        have t2 := ab_at s2 l2
        obtain ⟨r0, r0'⟩ := r0
        obtain ⟨r1, r1'⟩ := r1
        have b0 : (k : Int) < (n : Int) := by omega
        have b1 : (k : Int) + 1 < (n : Int) := by omega
        have hl := enc_take_len zs k
        rw [hz] at hl
        have f0 : (enc (zs.take k)).length + 1 ≤ 140737488355328 := by omega
        have f1 : (enc (zs.take k) ++ [alph s0]).length + 1 ≤ 140737488355328 := by simp; omega
        have f2 : (enc (zs.take k) ++ [alph s0] ++ [alph s1]).length + 1 ≤ 140737488355328 := by simp; omega
        have HZ : Hid (zs.length = n) := hz
        clear hz
        subst e
        go_wp2
        go_quiet (fail)
        go_wp2_with (first | (at_builtin; refine wpList_append_u8 rfl (.tmp 111) (.tmp 116) rfl w.heap.size _ (enc (zs.take k)) (alph s0) (hown.drewN _) rfl rfl f0 hsz ?_; intro v1 w1 hown1 hB1 hs1) | (at_builtin; refine wpList_append_u8 rfl (.tmp 118) (.tmp 123) rfl w.heap.size _ (enc (zs.take k) ++ [alph s0]) (alph s1) hown1 rfl rfl f1 hs1 ?_; intro v2 w2 hown2 hB2 hs2) | (at_builtin; refine wpList_append_u8 rfl (.tmp 125) (.tmp 130) rfl w.heap.size _ (enc (zs.take k) ++ [alph s0] ++ [alph s1]) (alph s2) hown2 rfl rfl f2 hs2 ?_; intro v3 w3 hown3 hB3 hs3))
        go_ret
        exact ⟨_, rfl, by rw [HE.out]; exact hown3, ((hB.trans (below_dr _ _ _)).trans hB1).trans (hB2.trans hB3)⟩

set_option maxRecDepth 100000 in
/-- The same at a slice of no element, nil or not. -/
theorem encode_none (a : Option Addr) (c : Nat) (w : World) :
    Calls Try.prog 15 #[.slice a 0 c] w fun e w' => ∃ v, e = .returned v ∧ OwnB w' w.heap.size v [] ∧ Below w.heap.size w w' := by
  obtain ⟨i0, hi, hz0, hz1, hz2⟩ := info_parts Try.info5
  go_enter Try.func15, Try.ntmps15
  go_wp2_with (at_make; refine wpList_make_own _ rfl _ _ 27 rfl w.heap.size 5 i0 (.int .u8 0) 1 Try.underlying27 hi hz0 hz1 _ _ _ 0 rfl rfl (by omega) (by rw [hz2]; omega) (by unfold maxLen; omega) (by omega) ?_; intro w0 hown0 hgrow0)
  have hB0 : Below w.heap.size w w0 := (Below.refl _ _).grown hgrow0 (Nat.le_refl _) (fun k hk => by cases hk)
  clear hgrow0 hi hz0 hz1 hz2
  go_loop [4, 5] (fun o i => o = .slice (some ⟨w.heap.size, 0, none⟩) 0 0 ∧ i = .int .i64 0) (fun _ _ => 0)
  case atStart => exact ⟨rfl, rfl⟩
  case round =>
    obtain ⟨rfl, rfl⟩ := hrel
    go_wp2
    go_ret
    exact ⟨_, rfl, hown0, hB0⟩
end Go.Proofs.Qxb6605459a
