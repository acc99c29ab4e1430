/-
  SLICES OF BYTES: what is told of one that is read; one of the call's own; cloneBytes (7), prefixKept (9).
-/
import Derived.Test.Qxb6606424aRows
import Derived.WalkKit
import Derived.ProofKit
import Derived.Deep.QuietTactic
import Derived.BigQuiet
import Derived.Lib.SliceRun
import Derived.Laws.CopyOwn
import Derived.Test.Qxb6606424aPlain
namespace Go.Proofs.Qxb6606424a
open Go.ChangeShapes Go.WideShapes Go.ChangeAt Go.RowKit
open Coder
set_option linter.unusedVariables false

theorem Try.info5 : (Try.prog.info? 5).map (fun i => (i.zero, i.size, i.bytes)) = some (some (.int .u8 0), 1, 1) := by kernel_rfl
theorem Try.size5 : (Try.prog.info? 5).map (·.size) = some 1 := by kernel_rfl

/-- The slice (a, n) holds the bytes zs. -/
def RowB (w : World) (a : Option Addr) (n : Nat) (zs : List Int) : Prop :=
  zs.length = n ∧ (∀ x ∈ zs, 0 ≤ x ∧ x ≤ 255) ∧ (0 < n → ∃ b off, a = some ⟨b, off, none⟩ ∧ b < w.heap.size ∧ ∀ i, i < n → w.cell? ⟨b, off + i, none⟩ = some (.int .u8 (zs.getD i 0)))

theorem getD_range (zs : List Int) (hr : ∀ x ∈ zs, 0 ≤ x ∧ x ≤ 255) (k : Nat) : 0 ≤ zs.getD k 0 ∧ zs.getD k 0 ≤ 255 := by
  by_cases h : k < zs.length
  · rw [List.getD_eq_getElem?_getD, List.getElem?_eq_getElem h]; exact hr _ (List.getElem_mem h)
  · rw [List.getD_eq_getElem?_getD, List.getElem?_eq_none (by omega)]; simp
theorem RowB.at {w : World} {a : Option Addr} {n : Nat} {zs : List Int} (h : RowB w a n zs) (k : Nat) (hk : k < n) :
    ∃ b off x, a = some ⟨b, off, none⟩ ∧ w.cell? ⟨b, off + k, none⟩ = some (.int .u8 x) ∧ Hid (x = zs.getD k 0) ∧ 0 ≤ x ∧ x ≤ 255 := by
  obtain ⟨b, off, ha, hb, hc⟩ := h.2.2 (by omega)
  have r := getD_range zs h.2.1 k
  exact ⟨b, off, _, ha, hc k hk, rfl, r.1, r.2⟩
theorem RowB.below {w w' : World} {a : Option Addr} {n : Nat} {zs : List Int} (h : RowB w a n zs) (hB : Below w.heap.size w w') : RowB w' a n zs := by
  refine ⟨h.1, h.2.1, fun hn => ?_⟩
  obtain ⟨b, off, ha, hb, hc⟩ := h.2.2 hn
  have hs := hB.size
  exact ⟨b, off, ha, by omega, fun i hi => (hB.cell (p := ⟨b, off + i, none⟩) hb).trans (hc i hi)⟩

/-- The bytes that a slice of the call's own holds. -/
def OwnB (w : World) (base : Nat) (v : Value) (bs : List Int) : Prop := w.ownsRow base 5 1 v bs.length (bs.map (Value.int .u8))

theorem OwnB.slice {w : World} {base : Nat} {v : Value} {ss : List Int} (h : OwnB w base v ss) (hr : ∀ x ∈ ss, 0 ≤ x ∧ x ≤ 255) : ∃ a cap, v = .slice a ss.length cap ∧ RowB w a ss.length ss ∧ (a = none → ss.length = 0 ∧ cap = 0) := by
  have h0 := h
  rcases h0.2 with ⟨rfl, hn⟩ | ⟨g, cap, cur, rfl, _, hg, _, _, _, _⟩
  · rw [hn]; exact ⟨_, _, rfl, ⟨hn, hr, fun h => absurd h (Nat.lt_irrefl _)⟩, fun _ => ⟨rfl, rfl⟩⟩
  · refine ⟨_, _, rfl, ⟨rfl, hr, fun _ => ⟨g, 0, rfl, (Array.getElem?_eq_some_iff.mp hg).1, fun i hi => ?_⟩⟩, fun h => by cases h⟩
    have := World.ownsRow.cellAt h i (by omega)
    rw [Nat.zero_add, this]
    simp [List.getD_eq_getElem?_getD, hi]
theorem OwnB.below {w w' : World} {base : Nat} {v : Value} {ss : List Int} (h : OwnB w base v ss) (hB : Below w.heap.size w w') : OwnB w' base v ss := by
  refine ⟨h.1, ?_⟩
  rcases h.2 with h' | ⟨g, cap, cur, hv, hb, hg, r⟩
  · exact .inl h'
  · have : g < w.heap.size := (Array.getElem?_eq_some_iff.mp hg).1
    exact .inr ⟨g, cap, cur, hv, hb, by rw [hB.block g this]; exact hg, r⟩

theorem made_block {w : World} {base g n : Nat} {xs : List Value} (h : w.ownsRow base 5 1 (.slice (some ⟨g, 0, none⟩) n n) n xs) : ∃ cur : List Value, w.heap[g]? = some (.cells cur.toArray 5 (0, 0)) ∧ cur.length = n := by
  rcases h.2 with ⟨h', _⟩ | ⟨g', cap', cur, h', _, hg, _, _, hs, _⟩
  · simp at h'
  · simp only [Value.slice.injEq, Option.some.injEq, Addr.mk.injEq, and_true, true_and] at h'
    obtain ⟨rfl, rfl⟩ := h'
    exact ⟨cur.toList, by simpa using hg, by simpa using hs⟩
theorem splice_all {α : Type} (cur cs : List α) (h : cur.length = cs.length) : splice cur 0 cs = cs := by
  simp [splice, h]
theorem own_of_block {w : World} {base g n : Nat} {zs : List Int} (hb : base ≤ g) (hn : zs.length = n) (hm : n ≤ 1048576) (h : w.heap[g]? = some (.cells (zs.map (Value.int .u8)).toArray 5 (0, 0))) : OwnB w base (.slice (some ⟨g, 0, none⟩) n n) zs := by
  subst hn
  refine ⟨by simp, .inr ⟨g, zs.length, _, rfl, hb, h, Nat.le_refl _, by unfold maxLen; omega, by simp, ?_⟩⟩
  rw [List.take_of_length_le (by simp)]
theorem src_cells {w : World} {x : Addr} {n : Nat} {zs : List Int} (h : RowB w (some x) n zs) (hn : 0 < n) : ∀ j v, (zs.map (Value.int .u8))[j]? = some v → w.cell? (x.add j) = some v := by
  obtain ⟨b, off, ha, hb, hc⟩ := h.2.2 hn
  obtain rfl : x = ⟨b, off, none⟩ := by simpa using ha
  intro j v hv
  have hj : j < zs.length := by
    have := (List.getElem?_eq_some_iff.mp hv).1
    simpa using this
  have := hc j (by rw [← h.1]; exact hj)
  rw [add_plain, this, ← hv]
  simp [List.getD_eq_getElem?_getD, hj]

set_option maxHeartbeats 400000 in
/-- cloneBytes: a fresh copy, or nil. -/
theorem clone_any (a : Option Addr) (n c : Nat) (zs : List Int) (w : World) (hn : n ≤ 1048576) (hrow : RowB w a n zs) (hnil : a = none → n = 0 ∧ c = 0) :
    Calls Try.prog 7 #[.slice a n c] w fun e w' => ∃ v, e = .returned v ∧ OwnB w' w.heap.size v zs ∧ Below w.heap.size w w' := by
  cases a with
  | none =>
    obtain ⟨rfl, rfl⟩ := hnil rfl
    have hz : zs = [] := List.length_eq_zero_iff.mp hrow.1
    subst hz
    have hnn := fun w : World => Lib.run_eql_slice_nil (P := Try.prog) w 23 5 none 0 0 0 0 Try.underlying23
    go_enter Try.func7, Try.ntmps7
    go_wp2
    go_ret
    exact ⟨_, rfl, World.ownsRow_nil _ _ _ _, Below.refl _ _⟩
  | some x =>
    clear hnil
    obtain ⟨i0, hi, hz0, hz1, hz2⟩ := info_parts Try.info5
    have hnn := fun w : World => Lib.run_eql_slice_nil (P := Try.prog) w 23 5 (some x) n c 0 0 Try.underlying23
    have HZ : Hid (zs.length = n) := hrow.1
    obtain ⟨cs, hcs⟩ : ∃ cs, cs = zs.map (Value.int .u8) := ⟨_, rfl⟩
    have HC : Hid (cs = zs.map (Value.int .u8)) := hcs
    have hcl : Hid (cs.length = n) := by show cs.length = n; rw [hcs, List.length_map]; exact hrow.1
    have h1c : Hid (∀ v ∈ cs, v.oneCell' = true) := by show ∀ v ∈ cs, v.oneCell' = true; rw [hcs]; exact ints_oneCell _ _
    have hsrc : Hid (0 < n → ∀ w', Below w.heap.size w w' → ∀ j v, cs[j]? = some v → w'.cell? (x.add j) = some v) := by
      show 0 < n → ∀ w', Below w.heap.size w w' → ∀ j v, cs[j]? = some v → w'.cell? (x.add j) = some v
      intro h0 w' hB'
      rw [hcs]
      exact src_cells (hrow.below hB') h0
    clear hcs
    go_enter Try.func7, Try.ntmps7
    go_wp2_with (first | (at_make; refine wpList_make_full _ rfl _ _ 23 rfl w.heap.size 5 i0 (.int .u8 0) 1 Try.underlying23 hi hz0 hz1 _ _ _ _ n rfl rfl (by omega) (by omega) (by rw [hz2]; omega) (by unfold maxLen; omega) (by omega) ?_; intro w0 hown0 hgrow0; have hB0 : Below w.heap.size w w0 := (Below.refl _ _).grown hgrow0 (Nat.le_refl _) (fun k hk => by cases hk); obtain ⟨cur, hg, hcur⟩ := made_block hown0; have HG : Hid (w0.heap[w.heap.size]? = some (.cells cur.toArray 5 (0, 0)) ∧ cur.length = n) := ⟨hg, hcur⟩; clear hg hcur hown0 hgrow0) | (with_reducible show wpList _ _ _ (Oper.mk _ (Op.call { callee := Callee.builtin Builtin.copy, args := _, argTypes := _ }) _ _ _ _ :: _) _ _; refine wpList_copy_splice rfl (.tmp 9) (.tmp 10) 23 23 rfl 5 Try.underlying23 Try.size5 (some ⟨w.heap.size, 0, none⟩) (some x) n n n c rfl rfl w.heap.size 0 cur 5 HG.out.1 cs (by rw [hcl.out]; exact (Nat.min_self n).symm) (fun h0 => ⟨rfl, x, rfl, hsrc.out (by rw [← hcl.out]; exact h0) w0 hB0⟩) (by rw [hcl.out, HG.out.2]; omega) h1c.out w.heap.size w hB0 (Nat.le_refl _) ?_; intro w2 HG2 hB2))
    have hfin : OwnB w2 w.heap.size (.slice (some ⟨w.heap.size, 0, none⟩) n n) zs := by
      have e := HG2.out
      rw [splice_all cur cs (by rw [hcl.out, HG.out.2]), HC.out] at e
      exact own_of_block (Nat.le_refl _) HZ.out hn e
    go_ret
    exact ⟨_, rfl, hfin, hB2⟩

/-- prefixKept: yes, where the first bytes are those. -/
theorem prefix_any (a a' : Option Addr) (m n c c' : Nat) (zs zs' : List Int) (w : World) (hm : m ≤ 1048576) (hr : RowB w a m zs') (hr' : RowB w a' n zs) (hp : ∃ ds, zs' = zs ++ ds) :
    Calls Try.prog 9 #[.slice a m c, .slice a' n c'] w fun e w' => e = .returned (.bool true) ∧ Below w.heap.size w w' := by
  have hle : n ≤ m := by
    obtain ⟨ds, rfl⟩ := hp
    have h1 := hr.1; have h2 := hr'.1
    simp at h1; omega
  have hlei : ¬ ((m : Int) < (n : Int)) := by omega
  have HP : Hid (∀ k, k < n → zs'.getD k 0 = zs.getD k 0) := by
    show ∀ k, k < n → zs'.getD k 0 = zs.getD k 0
    obtain ⟨ds, rfl⟩ := hp
    intro k hk
    have h2 := hr'.1
    simp [List.getD_eq_getElem?_getD, List.getElem?_append_left (show k < zs.length by omega)]
  clear hp
  go_enter Try.func9, Try.ntmps9
  go_wp2
  go_loopw [5] (fun i wq => ∃ k : Nat, k ≤ n ∧ i = .int .i64 k ∧ (∃ q, wq = w.drewN q)) (fun i _ => n - (intOf i).toNat)
  case atStart => exact ⟨0, Nat.zero_le _, rfl, 0, rfl⟩
  case round =>
    obtain ⟨k, hk, rfl, q, rfl⟩ := hrel
    by_cases hlt : k < n
    · obtain ⟨b, off, s, rfl, hc, HS, _, _⟩ := hr.at k (by omega)
      obtain ⟨b', off', s', rfl, hc', HS', _, _⟩ := hr'.at k hlt
      obtain rfl : s = s' := by rw [HS.out, HS'.out, HP.out k hlt]
      have bj : (k : Int) < (n : Int) := by omega
      have bk : (k : Int) < (m : Int) := by omega
      have he : (s == s) = true := by simp
      clear HS HS'
      go_wp2
      go_quiet (fail)
      go_wp2
      go_roundw
      case rel => exact ⟨k + 1, by omega, by go_num, _, rfl⟩
      case measure => simp [intOf]; omega
    · go_wp2
      go_ret
      exact ⟨rfl, ⟨rfl, rfl, rfl, Nat.le_refl _, fun _ _ => rfl⟩⟩
end Go.Proofs.Qxb6606424a
