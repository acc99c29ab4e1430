/-
  PLAIN MATHEMATICS OF knownValues: lists of strings.
-/
import Derived.Lib.SlicesS
namespace Go.Proofs.Qxb6605459a.KV
open Go.Lib (idxOfS idxFromS containsS containsS_iff idxOfS_nonneg_iff)

/-- One word of knownValues' loop. -/
def kstep (known : List ByteArray) (s : List ByteArray × Bool) (w : ByteArray) : List ByteArray × Bool :=
  if containsS known w = true then (if containsS s.1 w = true then s else (s.1 ++ [w], s.2)) else (s.1, false)
/-- What knownValues answers. -/
def kv (words known : List ByteArray) : List ByteArray × Bool := words.foldl (kstep known) ([], true)

theorem kv_snoc (l : List ByteArray) (w : ByteArray) (known : List ByteArray) : kv (l ++ [w]) known = kstep known (kv l known) w := by simp [kv, List.foldl_append]
theorem kstep_no (known : List ByteArray) (s : List ByteArray × Bool) (w : ByteArray) (h : containsS known w = false) : kstep known s w = (s.1, false) := by simp [kstep, h]
theorem kstep_old (known : List ByteArray) (s : List ByteArray × Bool) (w : ByteArray) (h : containsS known w = true) (h2 : containsS s.1 w = true) : kstep known s w = s := by simp [kstep, h, h2]
theorem kstep_new (known : List ByteArray) (s : List ByteArray × Bool) (w : ByteArray) (h : containsS known w = true) (h2 : containsS s.1 w = false) : kstep known s w = (s.1 ++ [w], s.2) := by simp [kstep, h, h2]
theorem contains_false_iff (l : List ByteArray) (x : ByteArray) : containsS l x = false ↔ ¬ x ∈ l := by
  rw [← Bool.not_eq_true, containsS_iff]

/-- Induction from the end. -/
theorem snoc_rec {p : List ByteArray → Prop} (h0 : p []) (hs : ∀ l w, p l → p (l ++ [w])) (l : List ByteArray) : p l := by
  have : ∀ n, ∀ l : List ByteArray, l.length = n → p l := by
    intro n
    induction n with
    | zero => intro l hl; rw [List.length_eq_zero_iff.mp hl]; exact h0
    | succ n ih =>
      intro l hl
      have hne : l ≠ [] := by intro e; subst e; simp at hl
      rw [← List.dropLast_concat_getLast hne]
      exact hs _ _ (ih _ (by simp; omega))
  exact this _ l rfl

/-! ### where a word first stands -/
theorem idxFrom_in (v w : ByteArray) : ∀ (l : List ByteArray) (i : Nat), v ∈ l → idxFromS (l ++ [w]) v i = idxFromS l v i
  | [], i, h => by simp at h
  | x :: l, i, h => by
    by_cases hx : x = v
    · simp [idxFromS, hx]
    · have hx' : ¬ v = x := fun e => hx e.symm
      have ih := idxFrom_in v w l (i + 1) (by simpa [hx'] using h)
      simp only [List.cons_append, idxFromS, if_neg hx, ih]
theorem idxFrom_new (v : ByteArray) : ∀ (l : List ByteArray) (i : Nat), ¬ v ∈ l → idxFromS (l ++ [v]) v i = ((i + l.length : Nat) : Int)
  | [], i, h => by simp [idxFromS]
  | x :: l, i, h => by
    have hx : ¬ x = v := fun e => h (by simp [e])
    have ih := idxFrom_new v l (i + 1) (fun e => h (by simp [e]))
    simp only [List.cons_append, idxFromS, if_neg hx, ih, List.length_cons]
    have e : i + 1 + l.length = i + (l.length + 1) := by omega
    rw [e]
theorem idx_in (v w : ByteArray) (l : List ByteArray) (h : v ∈ l) : idxOfS (l ++ [w]) v = idxOfS l v := idxFrom_in v w l 0 h
theorem idx_new (v : ByteArray) (l : List ByteArray) (h : ¬ v ∈ l) : idxOfS (l ++ [v]) v = l.length := by
  have := idxFrom_new v l 0 h
  simpa [idxOfS] using this
theorem idxFrom_lt (v : ByteArray) : ∀ (l : List ByteArray) (i : Nat), idxFromS l v i < ((i + l.length : Nat) : Int) ∨ idxFromS l v i = -1
  | [], i => by simp [idxFromS]
  | x :: l, i => by
    by_cases hx : x = v
    · simp only [idxFromS, if_pos hx, List.length_cons]; left; omega
    · simp only [idxFromS, if_neg hx, List.length_cons]
      rcases idxFrom_lt v l (i + 1) with h | h
      · left; omega
      · right; exact h
theorem idx_lt (v : ByteArray) (l : List ByteArray) : idxOfS l v < l.length := by
  rcases idxFrom_lt v l 0 with h | h
  · simpa [idxOfS] using h
  · rw [idxOfS, h]; omega

/-! ### what the answer is -/
theorem kv_ok (words known : List ByteArray) : (kv words known).2 = words.all (fun w => containsS known w) := by
  refine snoc_rec (p := fun l => (kv l known).2 = l.all (fun w => containsS known w)) rfl ?_ words
  intro l w ih
  rw [kv_snoc, List.all_append]
  simp only [List.all_cons, List.all_nil, Bool.and_true]
  cases h : containsS known w
  · rw [kstep_no _ _ _ h]; simp
  · cases h2 : containsS (kv l known).1 w
    · rw [kstep_new _ _ _ h h2]; simp [ih]
    · rw [kstep_old _ _ _ h h2]; simp [ih]
theorem kv_len (words known : List ByteArray) : (kv words known).1.length ≤ words.length := by
  refine snoc_rec (p := fun l => (kv l known).1.length ≤ l.length) (Nat.le_refl _) ?_ words
  intro l w ih
  rw [kv_snoc]
  cases h : containsS known w
  · rw [kstep_no _ _ _ h]; simp; omega
  · cases h2 : containsS (kv l known).1 w
    · rw [kstep_new _ _ _ h h2]; simp; omega
    · rw [kstep_old _ _ _ h h2]; simp; omega
theorem kv_mem (words known : List ByteArray) (v : ByteArray) : v ∈ (kv words known).1 ↔ v ∈ words ∧ v ∈ known := by
  refine snoc_rec (p := fun l => v ∈ (kv l known).1 ↔ v ∈ l ∧ v ∈ known) (by simp [kv]) ?_ words
  intro l w ih
  rw [kv_snoc]
  cases h : containsS known w
  · rw [kstep_no _ _ _ h]
    rw [contains_false_iff] at h
    simp only [ih, List.mem_append, List.mem_singleton]
    constructor
    · rintro ⟨a, b⟩; exact ⟨.inl a, b⟩
    · rintro ⟨a | a, b⟩
      · exact ⟨a, b⟩
      · subst a; exact absurd b h
  · cases h2 : containsS (kv l known).1 w
    · rw [kstep_new _ _ _ h h2]
      rw [containsS_iff] at h
      simp only [List.mem_append, ih, List.mem_singleton]
      constructor
      · rintro (⟨a, b⟩ | a)
        · exact ⟨.inl a, b⟩
        · subst a; exact ⟨.inr rfl, h⟩
      · rintro ⟨a | a, b⟩
        · exact .inl ⟨a, b⟩
        · exact .inr a
    · rw [kstep_old _ _ _ h h2]
      rw [containsS_iff] at h h2
      simp only [ih, List.mem_append, List.mem_singleton]
      constructor
      · rintro ⟨a, b⟩; exact ⟨.inl a, b⟩
      · rintro ⟨a | a, b⟩
        · exact ⟨a, b⟩
        · subst a; exact ih.mp h2
theorem kv_incr (words known : List ByteArray) : (kv words known).1.Pairwise (fun a b => idxOfS words a < idxOfS words b) := by
  refine snoc_rec (p := fun l => (kv l known).1.Pairwise (fun a b => idxOfS l a < idxOfS l b)) List.Pairwise.nil ?_ words
  intro l w ih
  have ih' : (kv l known).1.Pairwise (fun a b => idxOfS (l ++ [w]) a < idxOfS (l ++ [w]) b) := by
    rw [List.pairwise_iff_getElem] at ih ⊢
    intro i j hi hj hij
    rw [idx_in _ _ _ ((kv_mem l known _).mp (List.getElem_mem hi)).1, idx_in _ _ _ ((kv_mem l known _).mp (List.getElem_mem hj)).1]
    exact ih i j hi hj hij
  rw [kv_snoc]
  cases h : containsS known w
  · rw [kstep_no _ _ _ h]; exact ih'
  · cases h2 : containsS (kv l known).1 w
    · rw [kstep_new _ _ _ h h2]
      rw [containsS_iff] at h
      rw [contains_false_iff] at h2
      have hw : ¬ w ∈ l := fun e => h2 ((kv_mem l known w).mpr ⟨e, h⟩)
      rw [List.pairwise_append]
      refine ⟨ih', List.pairwise_singleton _ _, ?_⟩
      intro a ha b hb
      simp only [List.mem_singleton] at hb
      subst hb
      rw [idx_in _ _ _ ((kv_mem l known a).mp ha).1, idx_new _ _ hw]
      exact idx_lt a l
    · rw [kstep_old _ _ _ h h2]; exact ih'
theorem kv_nodup (words known : List ByteArray) : (kv words known).1.Nodup := by
  have h := kv_incr words known
  unfold List.Nodup
  rw [List.pairwise_iff_getElem] at h ⊢
  intro i j hi hj hij e
  have := h i j hi hj hij
  rw [e] at this
  exact absurd this (Int.lt_irrefl _)

/-- A list without repeats, all known, comes back as it is. -/
theorem kv_same (l known : List ByteArray) (hn : l.Nodup) (hk : ∀ v ∈ l, v ∈ known) : kv l known = (l, true) := by
  revert hn hk
  refine snoc_rec (p := fun l => l.Nodup → (∀ v ∈ l, v ∈ known) → kv l known = (l, true)) (fun _ _ => rfl) ?_ l
  intro l w ih hn hk
  rw [List.nodup_append] at hn
  obtain ⟨h1, _, h3⟩ := hn
  have e := ih h1 (fun v hv => hk v (by simp [hv]))
  have hw : containsS known w = true := (containsS_iff _ _).mpr (hk w (by simp))
  have hw2 : containsS l w = false := by
    rw [contains_false_iff]; intro hm; exact h3 w hm w (by simp) rfl
  rw [kv_snoc, e, kstep_new _ _ _ hw hw2]
/-- Two lists of known words that agree on the words give one answer. -/
theorem kv_congr (words k1 k2 : List ByteArray) (h : ∀ w ∈ words, w ∈ k1 ↔ w ∈ k2) : kv words k1 = kv words k2 := by
  revert h
  refine snoc_rec (p := fun l => (∀ w ∈ l, w ∈ k1 ↔ w ∈ k2) → kv l k1 = kv l k2) (fun _ => rfl) ?_ words
  intro l w ih h
  rw [kv_snoc, kv_snoc, ih (fun v hv => h v (by simp [hv]))]
  have : containsS k1 w = containsS k2 w := by
    rw [Bool.eq_iff_iff, containsS_iff, containsS_iff]; exact h w (by simp)
  unfold kstep
  rw [this]
theorem kv_again (words known : List ByteArray) : kv (kv words known).1 known = ((kv words known).1, true) :=
  kv_same _ _ (kv_nodup words known) (fun v hv => ((kv_mem words known v).mp hv).2)
theorem kv_within (words known : List ByteArray) : kv words (kv words known).1 = kv words known :=
  kv_congr _ _ _ (fun w hw => by rw [kv_mem]; exact ⟨fun h => h.2, fun h => ⟨hw, h⟩⟩)

theorem nodup_len : ∀ (l m : List ByteArray), l.Nodup → (∀ v ∈ l, v ∈ m) → l.length ≤ m.length
  | [], m, _, _ => Nat.zero_le _
  | x :: l, m, hn, hs => by
    rw [List.nodup_cons] at hn
    have hx : x ∈ m := hs x (by simp)
    have := nodup_len l (m.eraseP (fun y => decide (y = x))) hn.2 (fun v hv => by
      have hv' := hs v (by simp [hv])
      have hne : v ≠ x := fun e => hn.1 (e ▸ hv)
      exact (List.mem_eraseP_of_neg (by simp [hne])).mpr hv')
    rw [List.length_eraseP_of_mem hx (by simp)] at this
    have : 0 < m.length := List.length_pos_of_mem hx
    simp only [List.length_cons]
    omega
theorem kv_bounded (words known : List ByteArray) : (kv words known).1.length ≤ known.length :=
  nodup_len _ _ (kv_nodup words known) (fun v hv => ((kv_mem words known v).mp hv).2)

/-- Where the k-th value stands is behind where the one before it stands. -/
theorem kv_next (words known : List ByteArray) (k : Nat) (h : k + 1 < (kv words known).1.length) :
    idxOfS words ((kv words known).1.getD k ByteArray.empty) < idxOfS words ((kv words known).1.getD (k + 1) ByteArray.empty) := by
  have hp := List.pairwise_iff_getElem.mp (kv_incr words known) k (k + 1) (by omega) h (by omega)
  simpa [List.getD_eq_getElem?_getD, h, show k < (kv words known).1.length from by omega] using hp
theorem getD_mem (l : List ByteArray) (k : Nat) (h : k < l.length) : l.getD k ByteArray.empty ∈ l := by
  rw [List.getD_eq_getElem?_getD, List.getElem?_eq_getElem h]; exact List.getElem_mem h
theorem kv_idx_nonneg (words known : List ByteArray) (k : Nat) (h : k < (kv words known).1.length) : 0 ≤ idxOfS words ((kv words known).1.getD k ByteArray.empty) :=
  (idxOfS_nonneg_iff _ _).mpr ((kv_mem words known _).mp (getD_mem _ k h)).1
theorem take_snoc (l : List ByteArray) (k : Nat) (h : k < l.length) : l.take (k + 1) = l.take k ++ [l.getD k ByteArray.empty] := by
  rw [List.take_succ_eq_append_getElem h, List.getD_eq_getElem?_getD, List.getElem?_eq_getElem h]; rfl
end Go.Proofs.Qxb6605459a.KV
