/-
  THE WALK OF zzCloneBytes (14).
-/
import Derived.Test.Qxb6605459aEncode
import Derived.Lib.SliceRun
namespace Go.Proofs.Qxb6605459a
open Go.RowKit
open B64
set_option linter.unusedVariables false

theorem lt_of_cell {w : World} {b o : Nat} {v : Value} (h : w.cell? ⟨b, o, none⟩ = some v) : b < w.heap.size := by
  by_cases hb : b < w.heap.size
  · exact hb
  · have e : w.heap[b]? = none := Array.getElem?_eq_none (by omega)
    simp [World.cell?, e] at h

/-- What the copy holds behind k rounds. -/
def part (zs : List Int) (k : Nat) : List Int := zs.take k ++ List.replicate (zs.length - k) 0
theorem part_len (zs : List Int) (k : Nat) (h : k ≤ zs.length) : (part zs k).length = zs.length := by simp [part]; omega
theorem part_zero (zs : List Int) : part zs 0 = List.replicate zs.length 0 := by simp [part]
theorem part_all (zs : List Int) : part zs zs.length = zs := by simp [part]
theorem part_set (zs : List Int) (k : Nat) (h : k < zs.length) : (part zs k).set k (zs.getD k 0) = part zs (k + 1) := by
  apply List.ext_getElem?
  intro i
  rw [List.getElem?_set]
  have hl : (zs.take k).length = k := by simp; omega
  have hl' : (zs.take (k + 1)).length = k + 1 := by simp; omega
  by_cases e : k = i
  · subst e
    rw [if_pos rfl, if_pos (by rw [part_len _ _ (by omega)]; exact h)]
    simp only [part]
    rw [List.getElem?_append_left (by omega)]
    simp [List.getD_eq_getElem?_getD, h]
  · rw [if_neg e]
    simp only [part]
    by_cases h1 : i < k
    · rw [List.getElem?_append_left (by omega), List.getElem?_append_left (by omega)]
      simp [h1, show i < k + 1 from by omega]
    · rw [List.getElem?_append_right (by omega), List.getElem?_append_right (by omega), hl, hl', List.getElem?_replicate, List.getElem?_replicate]
      by_cases h2 : i < zs.length
      · rw [if_pos (by omega), if_pos (by omega)]
      · rw [if_neg (by omega), if_neg (by omega)]

theorem OwnB.cellAt {w : World} {base g n cap : Nat} {bs : List Int} (h : OwnB w base (.slice (some ⟨g, 0, none⟩) n cap) bs) (hn : bs.length = n) (j : Nat) (hj : j < n) : w.cell? ⟨g, j, none⟩ = some (.int .u8 (bs.getD j 0)) := by
  subst hn
  have := World.ownsRow.cellAt h j (by omega)
  rw [this]
  simp [List.getD_eq_getElem?_getD, hj]
theorem OwnB.frozenAt {w : World} {base g n cap : Nat} {bs : List Int} (h : OwnB w base (.slice (some ⟨g, 0, none⟩) n cap) bs) (hn : bs.length = n) (j : Nat) : w.frozen? ⟨g, j, none⟩ = false := by
  subst hn
  exact World.ownsRow.frozenAt h j
theorem OwnB.stored {w : World} {base g n cap : Nat} {bs : List Int} (h : OwnB w base (.slice (some ⟨g, 0, none⟩) n cap) bs) (hn : bs.length = n) (j : Nat) (x : Int) :
    OwnB (w.setCell ⟨g, j, none⟩ (.int .u8 x)) base (.slice (some ⟨g, 0, none⟩) n cap) (bs.set j x) := by
  subst hn
  have := (World.ownsRow.stored h j (.int .u8 x)).1
  unfold OwnB
  rw [List.length_set, List.map_set]
  exact this
theorem OwnB.row {w : World} {base g n cap : Nat} {bs : List Int} (h : OwnB w base (.slice (some ⟨g, 0, none⟩) n cap) bs) (hn : bs.length = n) (hr : ∀ x ∈ bs, 0 ≤ x ∧ x ≤ 255) : RowB w g 0 n bs := by
  refine ⟨hn, hr, ?_, fun i hi => by rw [Nat.zero_add]; exact h.cellAt hn i hi⟩
  exact (World.ownsRow.lt h g rfl).2

set_option maxHeartbeats 400000 in
theorem clone_row (b off n c : Nat) (zs : List Int) (w : World) (hn : n ≤ 1048576) (hrow : RowB w b off n zs) :
    Calls Try.prog 14 #[.slice (some ⟨b, off, none⟩) n c] w fun e w' => e = .returned (.slice (some ⟨w.heap.size, 0, none⟩) n n) ∧ OwnB w' w.heap.size (.slice (some ⟨w.heap.size, 0, none⟩) n n) zs ∧ Below w.heap.size w w' := by
  obtain ⟨i0, hi, hz0, hz1, hz2⟩ := info_parts Try.info5
  have hnil := fun w : World => Lib.run_eql_slice_nil (P := Try.prog) w 27 5 (some ⟨b, off, none⟩) n c 0 0 Try.underlying27
  go_enter Try.func14, Try.ntmps14
  go_wp2_with (at_make; refine wpList_make_full _ rfl _ _ 27 rfl w.heap.size 5 i0 (.int .u8 0) 1 Try.underlying27 hi hz0 hz1 _ _ _ _ n rfl rfl (by omega) (by omega) (by rw [hz2]; omega) (by unfold maxLen; omega) (by omega) ?_; intro w0 hown0 hgrow0)
  have hB0 : Below w.heap.size w w0 := (Below.refl _ _).grown hgrow0 (Nat.le_refl _) (fun k hk => by cases hk)
  have hz := hrow.1
  have ho0 : OwnB w0 w.heap.size (.slice (some ⟨w.heap.size, 0, none⟩) n n) (part zs 0) := by
    have e : (madeCells (Value.cells (.int .u8 0)) (n * 1)).toList = (part zs 0).map (Value.int .u8) := by
      rw [part_zero, hz, List.map_replicate, Nat.mul_one]; exact toList_madeCells_one _ _
    unfold OwnB
    rw [part_len zs 0 (by omega), hz, ← e]
    exact hown0
  clear hgrow0 hi hz0 hz1 hz2 hnil hown0
  have HZ : Hid (zs.length = n) := hz
  clear hz
  go_loopw [4] (fun i wr => ∃ k : Nat, k ≤ n ∧ i = .int .i64 k ∧ OwnB wr w.heap.size (.slice (some ⟨w.heap.size, 0, none⟩) n n) (part zs k) ∧ Below w.heap.size w wr) (fun i _ => n - (intOf i).toNat)
  case atStart => exact ⟨0, Nat.zero_le _, rfl, ho0, hB0⟩
  case round =>
    obtain ⟨k, hk, rfl, hown, hB⟩ := hrel
    by_cases hlt : k < n
    · have hpl : Hid ((part zs k).length = n) := by show (part zs k).length = n; rw [part_len zs k (by rw [HZ.out]; omega), HZ.out]
      have c0 := hrow.cell hB k hlt
      have c1 := hown.cellAt hpl.out k hlt
      have c2 := hown.frozenAt hpl.out k
      have R : OwnB (wr.setCell ⟨w.heap.size, k, none⟩ (.int .u8 (zs.getD k 0))) w.heap.size (.slice (some ⟨w.heap.size, 0, none⟩) n n) (part zs (k + 1)) := by
        rw [← part_set zs k (by rw [HZ.out]; exact hlt)]
        exact hown.stored hpl.out k _
      have R2 : Below w.heap.size w (wr.setCell ⟨w.heap.size, k, none⟩ (.int .u8 (zs.getD k 0))) := hB.setCell (Nat.le_refl _) _
      have HR : Hid (OwnB (wr.setCell ⟨w.heap.size, k, none⟩ (.int .u8 (zs.getD k 0))) w.heap.size (.slice (some ⟨w.heap.size, 0, none⟩) n n) (part zs (k + 1)) ∧ Below w.heap.size w (wr.setCell ⟨w.heap.size, k, none⟩ (.int .u8 (zs.getD k 0)))) := ⟨R, R2⟩
      clear R R2 hown
      obtain ⟨x, hx⟩ : ∃ x, x = zs.getD k 0 := ⟨_, rfl⟩
      rw [← hx] at c0 HR
      clear hx
      go_wp2
      go_roundw
      case rel => exact ⟨k + 1, by omega, by go_num, HR.out.1, HR.out.2⟩
      case measure => simp [intOf]; omega
    · have e : k = n := by omega
      subst e
      go_wp2
      go_ret
      exact ⟨rfl, by rw [← part_all zs, HZ.out]; exact hown, hB⟩

theorem clone_nil (w : World) : Calls Try.prog 14 #[.slice none 0 0] w fun e w' => e = .returned (.slice none 0 0) ∧ w' = w := by
  have hnil := fun w : World => Lib.run_eql_slice_nil (P := Try.prog) w 27 5 none 0 0 0 0 Try.underlying27
  go_enter Try.func14, Try.ntmps14
  go_wp2
  go_ret
  exact ⟨rfl, rfl⟩

theorem clone_empty (x : Addr) (c : Nat) (w : World) : Calls Try.prog 14 #[.slice (some x) 0 c] w fun e w' => e = .returned (.slice (some ⟨w.heap.size, 0, none⟩) 0 0) ∧ Below w.heap.size w w' := by
  obtain ⟨i0, hi, hz0, hz1, hz2⟩ := info_parts Try.info5
  have hnil := fun w : World => Lib.run_eql_slice_nil (P := Try.prog) w 27 5 (some x) 0 c 0 0 Try.underlying27
  go_enter Try.func14, Try.ntmps14
  go_wp2_with (at_make; refine wpList_make_full _ rfl _ _ 27 rfl w.heap.size 5 i0 (.int .u8 0) 1 Try.underlying27 hi hz0 hz1 _ _ _ _ 0 rfl rfl (by omega) (by omega) (by rw [hz2]; omega) (by unfold maxLen; omega) (by omega) ?_; intro w0 hown0 hgrow0)
  have hB0 : Below w.heap.size w w0 := (Below.refl _ _).grown hgrow0 (Nat.le_refl _) (fun k hk => by cases hk)
  clear hgrow0 hi hz0 hz1 hz2 hnil hown0
  go_loop [4] (fun i => i = .int .i64 0) (fun _ => 0)
  case atStart => rfl
  case round =>
    subst hrel
    go_wp2
    go_ret
    exact ⟨rfl, hB0⟩
end Go.Proofs.Qxb6605459a
