/-
  upperLetters AND WHAT IT CALLS: the closure (15), strings.indexFunc (18), strings.IndexFunc (17), strings.ContainsFunc (16), upperLetters (14), its shim (11).
-/
import Derived.Test.Qxb6600443aRows
import Derived.WalkKit
import Derived.ProofKit
import Derived.Lib.OthersKept
import Derived.Lib.TrimU
import Derived.Deep.LoopGhost
namespace Go.Proofs.Qxb6600443a
open Go.RowKit
set_option linter.unusedVariables false

/-- Is x the byte of an upper-case ASCII letter? -/
def up (x : Int) : Bool := decide (65 ≤ x ∧ x ≤ 90)
theorem up_iff (x : Int) : up x = true ↔ (65 ≤ x ∧ x ≤ 90) := by simp [up]
theorem up_false_iff (x : Int) : up x = false ↔ ¬ (65 ≤ x ∧ x ≤ 90) := by
  rw [← Bool.not_eq_true, up_iff]
/-- A string's bytes as numbers. -/
def bl (s : ByteArray) : List Int := s.data.toList.map fun b => (b.toNat : Int)
theorem bl_len (s : ByteArray) : (bl s).length = s.size := by simp [bl]
theorem bl_get (s : ByteArray) (k : Nat) (h : k < s.size) : (bl s)[k]'(by rw [bl_len]; exact h) = (s[k].toNat : Int) := by
  simp [bl]; rfl
theorem bl_take (s : ByteArray) (k : Nat) (h : k < s.size) : (bl s).take (k + 1) = (bl s).take k ++ [(s[k].toNat : Int)] := by
  rw [List.take_succ_eq_append_getElem (by rw [bl_len]; exact h), bl_get s k h]
theorem bl_take_all (s : ByteArray) : (bl s).take s.size = bl s := List.take_of_length_le (by rw [bl_len]; exact Nat.le_refl _)
def allUp (s : ByteArray) : Bool := (bl s).all up
def cnt (l : List Int) : Nat := (l.filter up).length
theorem cnt_snoc (l : List Int) (x : Int) : cnt (l ++ [x]) = cnt l + if up x = true then 1 else 0 := by
  unfold cnt
  rw [List.filter_append, List.length_append]
  cases h : up x <;> simp [h]
theorem cnt_le (l : List Int) : cnt l ≤ l.length := List.length_filter_le _ _
theorem cnt_all (s : ByteArray) : cnt (bl s) = s.size ↔ allUp s = true := by
  unfold cnt allUp
  rw [← bl_len, List.length_filter_eq_length_iff, List.all_eq_true]
theorem not_all (s : ByteArray) (k : Nat) (h : k < s.size) (hc : up (s[k].toNat : Int) = false) : allUp s = false := by
  have hm : (s[k].toNat : Int) ∈ bl s := by rw [← bl_get s k h]; exact List.getElem_mem _
  unfold allUp
  rw [List.all_eq_false]; exact ⟨_, hm, by simp [hc]⟩

/-! ### a byte and the rune that begins there -/
theorem get_bang (s : ByteArray) (k : Nat) (h : k < s.size) : s.get! k = s[k] := by
  cases s with
  | mk d =>
    have h' : k < d.size := h
    show d[k]! = d[k]
    exact getElem!_pos d k h'
theorem decode_low (s : ByteArray) (k : Nat) (h : k < s.size) (ha : (s[k].toNat : Nat) < 128) : Utf8.decode s k = (s[k].toNat, 1) := by
  unfold Utf8.decode
  simp only [Nat.add_zero, get_bang s k h]
  rw [if_pos ha]
theorem decode_high (s : ByteArray) (k : Nat) (h : k < s.size) (ha : 128 ≤ (s[k].toNat : Nat)) : 128 ≤ (Utf8.decode s k).1 := by
  unfold Utf8.decode
  simp only [Nat.add_zero, get_bang s k h]
  rw [if_neg (by omega)]
  repeat' split
  all_goals simp_all [Utf8.runeError]
  all_goals omega

theorem rb {a b : Bool} (h : a = b) : Ending.returned (.bool a) = .returned (.bool b) := by rw [h]
theorem ri {k : IntKind} {a b : Int} (h : a = b) : Ending.returned (.int k a) = .returned (.int k b) := by rw [h]

/-- The closure: is the rune no upper-case ASCII letter? -/
theorem not_upper (r : Int) (w : World) : Calls Try.prog 15 #[.int .i32 r] w fun e w' => e = .returned (.bool (!up r)) ∧ w' = w := by
  by_cases h1 : r < 65
  · have H : Hid ((!up r) = true) := by show (!up r) = true; rw [(up_false_iff r).mpr (by omega)]; rfl
    go_enter Try.func15, Try.ntmps15
    go_wp2
    go_ret
    exact ⟨rb H.out.symm, rfl⟩
  by_cases h2 : 90 < r
  · have H : Hid ((!up r) = true) := by show (!up r) = true; rw [(up_false_iff r).mpr (by omega)]; rfl
    go_enter Try.func15, Try.ntmps15
    go_wp2
    go_ret
    exact ⟨rb H.out.symm, rfl⟩
  · have H : Hid ((!up r) = false) := by show (!up r) = false; rw [(up_iff r).mpr (by omega)]; rfl
    go_enter Try.func15, Try.ntmps15
    go_wp2
    go_ret
    exact ⟨rb H.out.symm, rfl⟩

/-- What the search answers: -1 where all bytes are upper-case letters, else a place. -/
def Res (s : ByteArray) (i : Int) : Prop := (allUp s = true ∧ i = -1) ∨ (allUp s = false ∧ 0 ≤ i)

set_option maxHeartbeats 1000000 in
theorem index_walk (s : ByteArray) (hs : s.size ≤ 1048576) (w : World) :
    Calls Try.prog 18 #[.string s, .func (.func 15) #[] #[], .bool true] w fun e w' => ∃ i, e = .returned (.int .i64 i) ∧ Res s i ∧ Below w.heap.size w w' := by
  go_enter Try.func18, Try.ntmps18
  go_wp2
  go_loopg [] s.size (fun gf wx => ∃ pos : Nat, wx.heap[w.heap.size]? = some (.stringIter s pos) ∧ Below w.heap.size w wx ∧ pos + gf = s.size ∧ ((bl s).take pos).all up = true)
  case atStart => exact ⟨0, World.iter_heap w s 0, (Below.refl _ w).alloc (Nat.le_refl _) _, by omega, rfl⟩
  case round =>
    obtain ⟨pos, hit, hbw, hfu, hall⟩ := hrel
    have HA : Hid (((bl s).take pos).all up = true) := hall
    have HF : Hid (pos + gk = s.size) := hfu
    clear hall hfu
    by_cases hps : pos < s.size
    · have hnx : ∀ ty, (Instr.next (.pointer (some ⟨w.heap.size, 0, none⟩)) true ty).run Try.prog wr = _ := fun ty => Lib.run_next_any_at wr w.heap.size s pos ty hit hps
      obtain ⟨R, hR⟩ : ∃ R, (Utf8.decode s pos).1 = R := ⟨_, rfl⟩
      obtain ⟨K, hK⟩ : ∃ K, (Utf8.decode s pos).2 = K := ⟨_, rfl⟩
      rw [hR, hK] at hnx
      have hit2 := Lib.iterAt_heap wr w.heap.size s pos (pos + K) hit
      have hbw2 := Lib.below_iterAt hbw (k := w.heap.size) (Nat.le_refl _) s (pos + K)
      obtain ⟨W, hWd⟩ : ∃ W, wr.iterAt w.heap.size s (pos + K) = W := ⟨_, rfl⟩
      rw [hWd] at hnx hit2 hbw2
      cases hd : up (s[pos].toNat : Int)
      · have HR : Hid (up (R : Int) = false) := by
          show up (R : Int) = false
          rw [up_false_iff] at hd ⊢
          rw [← hR]
          by_cases ha : (s[pos].toNat : Nat) < 128
          · rw [decode_low s pos hps ha]; exact hd
          · have := decode_high s pos hps (by omega); omega
        have HN : Hid (allUp s = false) := not_all s pos hps hd
        have HI : Hid (W.heap[w.heap.size]? = some (.stringIter s (pos + K))) := hit2
        clear hR hK hWd hit hit2 hd
        go_wp2_with (go_at_call 15; refine (not_upper _ _).mono ?_; rw [HR.out]; rintro e w' ⟨rfl, rfl⟩)
        go_ret
        exact ⟨_, rfl, .inr ⟨HN.out, by omega⟩, hbw2⟩
      · have hx := (up_iff _).mp hd
        have hdl := decode_low s pos hps (by omega)
        have hR1 : R = s[pos].toNat := by rw [← hR, hdl]
        have hK1 : K = 1 := by rw [← hK, hdl]
        have HR : Hid (up (R : Int) = true) := by show up (R : Int) = true; rw [hR1]; exact hd
        have HA2 : Hid (((bl s).take (pos + 1)).all up = true) := by
          show List.all _ _ = true
          rw [bl_take s pos hps, List.all_append, HA.out]; simp [hd]
        rw [hK1] at hit2
        have HI : Hid (W.heap[w.heap.size]? = some (.stringIter s (pos + 1))) := hit2
        clear hR hK hWd hit hit2 hd hdl hx hR1 hK1
        go_wp2_with (go_at_call 15; refine (not_upper _ _).mono ?_; rw [HR.out]; rintro e w' ⟨rfl, rfl⟩)
        go_roundg (gk - 1)
        case measure => have := HF.out; omega
        case rel => exact ⟨pos + 1, HI.out, hbw2, by have := HF.out; omega, HA2.out⟩
    · have hnx : ∀ ty, (Instr.next (.pointer (some ⟨w.heap.size, 0, none⟩)) true ty).run Try.prog wr = _ := fun ty => Lib.run_next_end_at wr w.heap.size s pos ty hit hps
      have HN : Hid (allUp s = true) := by
        have e : pos = s.size := by have := HF.out; omega
        have := HA.out
        rw [e, bl_take_all] at this
        exact this
      go_wp2
      go_ret
      exact ⟨_, rfl, .inl ⟨HN.out, rfl⟩, hbw⟩

theorem indexFunc_walk (s : ByteArray) (hs : s.size ≤ 1048576) (w : World) :
    Calls Try.prog 17 #[.string s, .func (.func 15) #[] #[]] w fun e w' => ∃ i, e = .returned (.int .i64 i) ∧ Res s i ∧ Below w.heap.size w w' := by
  go_enter Try.func17, Try.ntmps17
  go_wp2_with (go_at_call 18; refine (index_walk s hs _).mono ?_; rintro e w' ⟨i, rfl, hr, hB⟩)
  go_ret
  exact ⟨_, rfl, hr, hB⟩

theorem res_bool {s : ByteArray} {i : Int} (h : Res s i) : decide (0 ≤ i) = !allUp s := by
  rcases h with ⟨h1, h2⟩ | ⟨h1, h2⟩
  · rw [h1, h2]; rfl
  · rw [h1]; simpa using h2

theorem contains_walk (s : ByteArray) (hs : s.size ≤ 1048576) (w : World) :
    Calls Try.prog 16 #[.string s, .func (.func 15) #[] #[]] w fun e w' => e = .returned (.bool (!allUp s)) ∧ Below w.heap.size w w' := by
  go_enter Try.func16, Try.ntmps16
  go_wp2_with (go_at_call 17; refine (indexFunc_walk s hs _).mono ?_; rintro e w' ⟨i, rfl, hr, hB⟩; have HR : Hid (Res s i) := hr; clear hr)
  go_ret
  exact ⟨rb (res_bool HR.out), hB⟩

/-- upperLetters where the length is another. -/
theorem upper_no (s : ByteArray) (n : Int) (h : ((s.size : Int) == n) = false) (w : World) :
    Calls Try.prog 14 #[.string s, .int .i64 n] w fun e w' => e = .returned (.bool false) ∧ Below w.heap.size w w' := by
  go_enter Try.func14, Try.ntmps14
  go_wp2
  go_ret
  exact ⟨rfl, Below.refl _ _⟩

/-- upperLetters at the string's own length. -/
theorem upper_yes (s : ByteArray) (n : Int) (hn : ((s.size : Int) == n) = true) (hs : s.size ≤ 1048576) (w : World) :
    Calls Try.prog 14 #[.string s, .int .i64 n] w fun e w' => e = .returned (.bool (allUp s)) ∧ Below w.heap.size w w' := by
  cases e : allUp s
  · go_enter Try.func14, Try.ntmps14
    go_wp2_with (go_at_call 16; refine (contains_walk s hs _).mono ?_; rw [e]; rintro e w' ⟨rfl, hB⟩)
    go_ret
    exact ⟨rfl, hB⟩
  · go_enter Try.func14, Try.ntmps14
    go_wp2_with (go_at_call 16; refine (contains_walk s hs _).mono ?_; rw [e]; rintro e w' ⟨rfl, hB⟩)
    go_ret
    exact ⟨rfl, hB⟩

/-- its shim -/
theorem shim_no (s : ByteArray) (n : Int) (h : ((s.size : Int) == n) = false) (w : World) :
    Calls Try.prog 11 #[.string s, .int .i64 n] w fun e w' => e = .returned (.bool false) ∧ Below w.heap.size w w' := by
  go_enter Try.func11, Try.ntmps11
  go_wp2_with (go_at_call 14; refine (upper_no s n h _).mono ?_; rintro e w' ⟨rfl, hB⟩)
  go_ret
  exact ⟨rfl, hB⟩
theorem shim_yes (s : ByteArray) (n : Int) (hn : ((s.size : Int) == n) = true) (hs : s.size ≤ 1048576) (w : World) :
    Calls Try.prog 11 #[.string s, .int .i64 n] w fun e w' => e = .returned (.bool (allUp s)) ∧ Below w.heap.size w w' := by
  go_enter Try.func11, Try.ntmps11
  go_wp2_with (go_at_call 14; refine (upper_yes s n hn hs _).mono ?_; rintro e w' ⟨rfl, hB⟩)
  go_ret
  exact ⟨rfl, hB⟩
end Go.Proofs.Qxb6600443a
