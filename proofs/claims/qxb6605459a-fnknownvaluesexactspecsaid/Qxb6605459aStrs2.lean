/-
  SLICES OF STRINGS, ON: zzCloneStrings (18), zzSameStrings (23), the two looks at the total length (16, 22), knownValues (26) and its shim (19).
-/
import Derived.Test.Qxb6605459aStrs
namespace Go.Proofs.Qxb6605459a
open Go.RowKit
open KV
open Go.Lib (idxOfS containsS containsS_iff idxOfS_nonneg_iff idxOfS_hit idxOfS_miss bytes_beq_iff bytes_beq_false_iff)
set_option linter.unusedVariables false

theorem Try.info9 : (Try.prog.info? 9).map (fun i => (i.zero, i.size, i.bytes)) = some (some (.string ByteArray.empty), 1, 16) := by kernel_rfl

/-- The strings that a slice of the call's own holds. -/
def OwnS (w : World) (base : Nat) (v : Value) (ss : List ByteArray) : Prop := w.ownsRow base 9 1 v ss.length (ss.map Value.string)

theorem OwnS.slice {w : World} {base : Nat} {v : Value} {ss : List ByteArray} (h : OwnS w base v ss) : ∃ a cap, v = .slice a ss.length cap ∧ RowS w a ss.length ss := by
  have h0 := h
  rcases h0.2 with ⟨rfl, hn⟩ | ⟨g, cap, cur, rfl, _, hg, _, _, _, _⟩
  · rw [hn]; exact ⟨_, _, rfl, hn, fun h => absurd h (Nat.lt_irrefl _)⟩
  · refine ⟨_, _, rfl, rfl, fun _ => ⟨g, 0, rfl, (Array.getElem?_eq_some_iff.mp hg).1, fun i hi => ?_⟩⟩
    have := World.ownsRow.cellAt h i (by omega)
    rw [Nat.zero_add, this]
    simp [List.getD_eq_getElem?_getD, hi]
theorem OwnS.below {w w' : World} {base : Nat} {v : Value} {ss : List ByteArray} (h : OwnS w base v ss) (hB : Below w.heap.size w w') : OwnS w' base v ss := by
  refine ⟨h.1, ?_⟩
  rcases h.2 with h' | ⟨g, cap, cur, hv, hb, hg, r⟩
  · exact .inl h'
  · have : g < w.heap.size := (Array.getElem?_eq_some_iff.mp hg).1
    exact .inr ⟨g, cap, cur, hv, hb, by rw [hB.block g this]; exact hg, r⟩

theorem wpList_append_str {W : World} {ops : Array Oper} {rest : List Oper} {o : Oper} {a : Act} {Q : Exit → Act → World → Prop} (hgd : o.guard = none) (s x : Operand)
    (ho : o.op = .call { callee := .builtin .append, args := #[s, x], argTypes := #[30, 30] })
    (base : Nat) (v : Value) (bs : List ByteArray) (y : ByteArray) (hown : OwnS W base v bs) (hs : a.eval s = v) (hx : a.eval x = .slice (some ⟨W.heap.size, 0, none⟩) 1 1)
    (hbnd : bs.length + 1 ≤ 1048576) (hbase : base ≤ W.heap.size)
    (h : ∀ v' w', OwnS w' base v' (bs ++ [y]) → Below base W w' → base ≤ w'.heap.size → wpList Try.prog ops Q rest (a.put o.dst v') w') :
    wpList Try.prog ops Q (o :: rest) a (W.alloc (.cells #[.string y] 9)) := by
  obtain ⟨i0, hi, hz0, hz1, hz2⟩ := info_parts Try.info9
  refine wpList_append_own (P := Try.prog) (W.alloc (.cells #[.string y] 9)) hgd s x 30 ho base 9 i0 (.string ByteArray.empty) 1 16 Try.underlying30 hi hz0 hz1 hz2 rfl (by decide) v bs.length (bs.map Value.string) hs (World.ownsRow.alloc hown _)
    ⟨W.heap.size, 0, none⟩ 1 1 [.string y] hx rfl ?_ ?_ (by unfold maxLen; omega) (by omega) (by simp; omega) ?_
  · intro j u hj
    match j, hj with
    | 0, hj => simp at hj; subst hj; simp [Addr.add]
  · intro u hu; simp at hu; subst hu; rfl
  · intro v' w' hown' hgrow _
    have e : (bs ++ [y]).length = bs.length + 1 := by simp
    have hB : Below base W w' := (((Below.refl base W).alloc hbase _).grown hgrow (by simp; omega) (fun k hk => (World.ownsRow.lt hown k hk).1))
    have hs' := hB.size
    refine h v' w' ?_ hB (by omega)
    unfold OwnS
    rw [e, List.map_append]
    exact hown'

/-! ### the copy -/
def partS (zs : List ByteArray) (k : Nat) : List ByteArray := zs.take k ++ List.replicate (zs.length - k) ByteArray.empty
theorem partS_len (zs : List ByteArray) (k : Nat) (h : k ≤ zs.length) : (partS zs k).length = zs.length := by simp [partS]; omega
theorem partS_zero (zs : List ByteArray) : partS zs 0 = List.replicate zs.length ByteArray.empty := by simp [partS]
theorem partS_all (zs : List ByteArray) : partS zs zs.length = zs := by simp [partS]
theorem partS_set (zs : List ByteArray) (k : Nat) (h : k < zs.length) : (partS zs k).set k (zs.getD k ByteArray.empty) = partS zs (k + 1) := by
  apply List.ext_getElem?
  intro i
  rw [List.getElem?_set]
  have hl : (zs.take k).length = k := by simp; omega
  have hl' : (zs.take (k + 1)).length = k + 1 := by simp; omega
  by_cases e : k = i
  · subst e
    rw [if_pos rfl, if_pos (by rw [partS_len _ _ (by omega)]; exact h)]
    simp only [partS]
    rw [List.getElem?_append_left (by omega)]
    simp [List.getD_eq_getElem?_getD, h]
  · rw [if_neg e]
    simp only [partS]
    by_cases h1 : i < k
    · rw [List.getElem?_append_left (by omega), List.getElem?_append_left (by omega)]
      simp [h1, show i < k + 1 from by omega]
    · rw [List.getElem?_append_right (by omega), List.getElem?_append_right (by omega), hl, hl', List.getElem?_replicate, List.getElem?_replicate]
      by_cases h2 : i < zs.length
      · rw [if_pos (by omega), if_pos (by omega)]
      · rw [if_neg (by omega), if_neg (by omega)]
theorem OwnS.cellAt {w : World} {base g n cap : Nat} {bs : List ByteArray} (h : OwnS w base (.slice (some ⟨g, 0, none⟩) n cap) bs) (hn : bs.length = n) (j : Nat) (hj : j < n) : w.cell? ⟨g, j, none⟩ = some (.string (bs.getD j ByteArray.empty)) := by
  subst hn
  have := World.ownsRow.cellAt h j (by omega)
  rw [this]
  simp [List.getD_eq_getElem?_getD, hj]
theorem OwnS.frozenAt {w : World} {base g n cap : Nat} {bs : List ByteArray} (h : OwnS w base (.slice (some ⟨g, 0, none⟩) n cap) bs) (hn : bs.length = n) (j : Nat) : w.frozen? ⟨g, j, none⟩ = false := by
  subst hn
  exact World.ownsRow.frozenAt h j
theorem OwnS.stored {w : World} {base g n cap : Nat} {bs : List ByteArray} (h : OwnS w base (.slice (some ⟨g, 0, none⟩) n cap) bs) (hn : bs.length = n) (j : Nat) (x : ByteArray) :
    OwnS (w.setCell ⟨g, j, none⟩ (.string x)) base (.slice (some ⟨g, 0, none⟩) n cap) (bs.set j x) := by
  subst hn
  have := (World.ownsRow.stored h j (.string x)).1
  unfold OwnS
  rw [List.length_set, List.map_set]
  exact this

set_option maxHeartbeats 400000 in
/-- zzCloneStrings: the copy, or nil. -/
theorem clones_any (a : Option Addr) (n c : Nat) (ss : List ByteArray) (w : World) (hn : n ≤ 1048576) (hrow : RowS w a n ss) (hnil : a = none → n = 0 ∧ c = 0) :
    Calls Try.prog 18 #[.slice a n c] w fun e w' => ∃ a' c', e = .returned (.slice a' n c') ∧ RowS w' a' n ss ∧ Below w.heap.size w w' := by
  cases a with
  | none =>
    obtain ⟨rfl, rfl⟩ := hnil rfl
    have hnn := fun w : World => Lib.run_eql_slice_nil (P := Try.prog) w 30 9 none 0 0 0 0 Try.underlying30
    go_enter Try.func18, Try.ntmps18
    go_wp2
    go_ret
    exact ⟨_, ⟨_, rfl⟩, ⟨hrow.1, fun h => absurd h (Nat.lt_irrefl _)⟩, Below.refl _ _⟩
  | some x =>
    clear hnil
    obtain ⟨i0, hi, hz0, hz1, hz2⟩ := info_parts Try.info9
    have hnn := fun w : World => Lib.run_eql_slice_nil (P := Try.prog) w 30 9 (some x) n c 0 0 Try.underlying30
    go_enter Try.func18, Try.ntmps18
    go_wp2_with (at_make; refine wpList_make_full _ rfl _ _ 30 rfl w.heap.size 9 i0 (.string ByteArray.empty) 1 Try.underlying30 hi hz0 hz1 _ _ _ _ n rfl rfl (by omega) (by omega) (by rw [hz2]; omega) (by unfold maxLen; omega) (by omega) ?_; intro w0 hown0 hgrow0)
    have hB0 : Below w.heap.size w w0 := (Below.refl _ _).grown hgrow0 (Nat.le_refl _) (fun k hk => by cases hk)
    have hz := hrow.1
    have ho0 : OwnS w0 w.heap.size (.slice (some ⟨w.heap.size, 0, none⟩) n n) (partS ss 0) := by
      have e : (madeCells (Value.cells (.string ByteArray.empty)) (n * 1)).toList = (partS ss 0).map Value.string := by
        rw [partS_zero, hz, List.map_replicate, Nat.mul_one]; exact toList_madeCells_one _ _
      unfold OwnS
      rw [partS_len ss 0 (by omega), hz, ← e]
      exact hown0
    clear hgrow0 hi hz0 hz1 hz2 hnn hown0
    have HZ : Hid (ss.length = n) := hz
    clear hz
    go_loopw [4] (fun i wr => ∃ k : Nat, k ≤ n ∧ i = .int .i64 k ∧ OwnS wr w.heap.size (.slice (some ⟨w.heap.size, 0, none⟩) n n) (partS ss k) ∧ Below w.heap.size w wr) (fun i _ => n - (intOf i).toNat)
    case atStart => exact ⟨0, Nat.zero_le _, rfl, ho0, hB0⟩
    case round =>
      obtain ⟨k, hk, rfl, hown, hB⟩ := hrel
      by_cases hlt : k < n
      · have hpl : Hid ((partS ss k).length = n) := by show (partS ss k).length = n; rw [partS_len ss k (by rw [HZ.out]; omega), HZ.out]
        obtain ⟨b, off, s, hx, c0, HS⟩ := (hrow.below (B := 0) hB).at k hlt
        obtain rfl : x = ⟨b, off, none⟩ := by simpa using hx
        clear hx
        have c1 := hown.cellAt hpl.out k hlt
        have c2 := hown.frozenAt hpl.out k
        have HR : Hid (OwnS (wr.setCell ⟨w.heap.size, k, none⟩ (.string s)) w.heap.size (.slice (some ⟨w.heap.size, 0, none⟩) n n) (partS ss (k + 1)) ∧ Below w.heap.size w (wr.setCell ⟨w.heap.size, k, none⟩ (.string s))) := by
          refine ⟨?_, hB.setCell (Nat.le_refl _) _⟩
          rw [← partS_set ss k (by rw [HZ.out]; exact hlt), ← HS.out]
          exact hown.stored hpl.out k _
        clear hown
        go_wp2
        go_roundw
        case rel => exact ⟨k + 1, by omega, by go_num, HR.out.1, HR.out.2⟩
        case measure => simp [intOf]; omega
      · have e : k = n := by omega
        subst e
        have hfin : RowS wr (some ⟨w.heap.size, 0, none⟩) k ss := by
          have h1 : partS ss k = ss := by rw [← HZ.out]; exact partS_all ss
          rw [h1] at hown
          refine ⟨HZ.out, fun _ => ⟨w.heap.size, 0, rfl, (World.ownsRow.lt hown _ rfl).2, fun i hi => ?_⟩⟩
          rw [Nat.zero_add]; exact hown.cellAt HZ.out i hi
        have HF : Hid (RowS wr (some ⟨w.heap.size, 0, none⟩) k ss) := hfin
        clear hfin hown
        go_wp2
        go_ret
        exact ⟨_, _, rfl, HF.out, hB⟩

/-! ### zzSameStrings -/
theorem eqS_of_get (E l : List ByteArray) (hl : E.length = l.length) (h : ∀ t, t < l.length → E.getD t ByteArray.empty = l.getD t ByteArray.empty) : E = l := by
  apply List.ext_getElem hl
  intro t h1 h2
  have := h t h2
  simpa [List.getD_eq_getElem?_getD, h1, h2] using this

theorem same_any (a a' : Option Addr) (n c c' : Nat) (ss : List ByteArray) (w : World) (hn : n ≤ 1048576) (hr : RowS w a n ss) (hr' : RowS w a' n ss) :
    Calls Try.prog 23 #[.slice a n c, .slice a' n c'] w fun e w' => e = .returned (.bool true) ∧ Below w.heap.size w w' := by
  go_enter Try.func23, Try.ntmps23
  go_wp2
  go_loopw [5] (fun i wq => ∃ k : Nat, k ≤ n ∧ i = .int .i64 k ∧ (∃ q, wq = w.drewN q)) (fun i _ => n - (intOf i).toNat)
  case atStart => exact ⟨0, Nat.zero_le _, rfl, 0, rfl⟩
  case round =>
    obtain ⟨k, hk, rfl, q, rfl⟩ := hrel
    by_cases hlt : k < n
    · obtain ⟨b, off, s, rfl, hc, HS⟩ := hr.at k hlt
      obtain ⟨b', off', s', rfl, hc', HS'⟩ := hr'.at k hlt
      obtain rfl : s = s' := by rw [HS.out, HS'.out]
      have bj : (k : Int) < (n : Int) := by omega
      have he : (s.toList == s.toList) = true := by simp
      clear HS HS'
      go_wp2
      go_quiet (fail)
      go_wp2
      go_roundw
      case rel => exact ⟨k + 1, by omega, by go_num, _, rfl⟩
      case measure => simp [intOf]; omega
    · go_wp2
      go_ret
      exact ⟨rfl, ⟨rfl, rfl, rfl, Nat.le_refl _, fun _ _ => rfl⟩⟩

/-! ### the looks at the total length: they answer some bool -/
def SomeBool (e : Ending) : Prop := ∃ y : Bool, e = .returned (.bool y)

set_option maxHeartbeats 1000000 in
theorem total_exact (a a' : Option Addr) (n n' c c' : Nat) (ss ss' : List ByteArray) (w : World) (hn : n ≤ maxLen) (hn' : n' ≤ maxLen) (hr : RowS w a n ss) (hr' : RowS w a' n' ss') :
    Calls Try.prog 16 #[.slice a n c, .slice a' n' c'] w fun e w' => SomeBool e ∧ w' = w := by
  unfold maxLen at hn hn'
  by_cases h1 : 1048576 < (n : Int)
  · go_enter Try.func16, Try.ntmps16
    go_wp2
    go_ret
    exact ⟨⟨_, rfl⟩, rfl⟩
  go_enter Try.func16, Try.ntmps16
  go_wp2
  go_loop [5, 6] (fun t i => ∃ k : Nat, k ≤ n ∧ i = .int .i64 k ∧ ∃ y : Int, t = .int .i64 y) (fun _ i => n - (intOf i).toNat)
  case atStart => exact ⟨0, Nat.zero_le _, rfl, _, rfl⟩
  case round =>
    obtain ⟨k, hk, rfl, y, rfl⟩ := hrel
    by_cases hlt : k < n
    · obtain ⟨b, off, s, rfl, hc, HS⟩ := hr.at k hlt
      go_wp2
      · go_ret
        exact ⟨⟨_, rfl⟩, rfl⟩
      · go_ret
        exact ⟨⟨_, rfl⟩, rfl⟩
      · go_round
        case rel => exact ⟨k + 1, by omega, by go_num, _, rfl⟩
        case measure => simp [intOf]; omega
    · by_cases h2 : 1048576 < (n' : Int)
      · go_wp2
        go_ret
        exact ⟨⟨_, rfl⟩, rfl⟩
      · go_wp2
        · go_ret
          exact ⟨⟨_, rfl⟩, rfl⟩
        · go_loop [5, 7] (fun t i => ∃ k : Nat, k ≤ n' ∧ i = .int .i64 k ∧ ∃ y : Int, t = .int .i64 y) (fun _ i => n' - (intOf i).toNat)
          case atStart => exact ⟨0, Nat.zero_le _, rfl, _, rfl⟩
          case round =>
            obtain ⟨k', hk', rfl, y', rfl⟩ := hrel
            by_cases hlt' : k' < n'
            · obtain ⟨b, off, s, rfl, hc, HS⟩ := hr'.at k' hlt'
              go_wp2
              · go_ret
                exact ⟨⟨_, rfl⟩, rfl⟩
              · go_ret
                exact ⟨⟨_, rfl⟩, rfl⟩
              · go_round
                case rel => exact ⟨k' + 1, by omega, by go_num, _, rfl⟩
                case measure => simp [intOf]; omega
            · go_wp2
              go_ret
              exact ⟨⟨_, rfl⟩, rfl⟩

set_option maxHeartbeats 1000000 in
theorem total_stable (a a' : Option Addr) (n n' c c' : Nat) (ss ss' : List ByteArray) (w : World) (hn : n ≤ maxLen) (hn' : n' ≤ maxLen) (hr : RowS w a n ss) (hr' : RowS w a' n' ss') :
    Calls Try.prog 22 #[.slice a n c, .slice a' n' c'] w fun e w' => SomeBool e ∧ w' = w := by
  unfold maxLen at hn hn'
  by_cases h1 : 1048576 < (n : Int)
  · go_enter Try.func22, Try.ntmps22
    go_wp2
    go_ret
    exact ⟨⟨_, rfl⟩, rfl⟩
  go_enter Try.func22, Try.ntmps22
  go_wp2
  go_loop [5, 6] (fun t i => ∃ k : Nat, k ≤ n ∧ i = .int .i64 k ∧ ∃ y : Int, t = .int .i64 y) (fun _ i => n - (intOf i).toNat)
  case atStart => exact ⟨0, Nat.zero_le _, rfl, _, rfl⟩
  case round =>
    obtain ⟨k, hk, rfl, y, rfl⟩ := hrel
    by_cases hlt : k < n
    · obtain ⟨b, off, s, rfl, hc, HS⟩ := hr.at k hlt
      go_wp2
      · go_ret
        exact ⟨⟨_, rfl⟩, rfl⟩
      · go_ret
        exact ⟨⟨_, rfl⟩, rfl⟩
      · go_round
        case rel => exact ⟨k + 1, by omega, by go_num, _, rfl⟩
        case measure => simp [intOf]; omega
    · by_cases h2 : 1048576 < (n' : Int)
      · go_wp2
        go_ret
        exact ⟨⟨_, rfl⟩, rfl⟩
      · go_wp2
        · go_ret
          exact ⟨⟨_, rfl⟩, rfl⟩
        · go_loop [5, 7] (fun t i => ∃ k : Nat, k ≤ n' ∧ i = .int .i64 k ∧ ∃ y : Int, t = .int .i64 y) (fun _ i => n' - (intOf i).toNat)
          case atStart => exact ⟨0, Nat.zero_le _, rfl, _, rfl⟩
          case round =>
            obtain ⟨k', hk', rfl, y', rfl⟩ := hrel
            by_cases hlt' : k' < n'
            · obtain ⟨b, off, s, rfl, hc, HS⟩ := hr'.at k' hlt'
              go_wp2
              · go_ret
                exact ⟨⟨_, rfl⟩, rfl⟩
              · go_ret
                exact ⟨⟨_, rfl⟩, rfl⟩
              · go_round
                case rel => exact ⟨k' + 1, by omega, by go_num, _, rfl⟩
                case measure => simp [intOf]; omega
            · go_wp2
              go_ret
              exact ⟨⟨_, rfl⟩, rfl⟩

end Go.Proofs.Qxb6605459a
