/-
  PLAIN MATHEMATICS OF THE ARITHMETIC CODER's STEP: no Go in sight.
-/
namespace Go.Proofs.Qxb6606424a.Coder

/-- A list of bytes as one number, the first byte on top. -/
def val (ds : List Int) : Int := ds.foldl (fun v d => v * 256 + d) 0
theorem val_snoc (ds : List Int) (t : Int) : val (ds ++ [t]) = val ds * 256 + t := by simp [val, List.foldl_append]
theorem val_nil : val [] = 0 := rfl

/-- What a widened end is: the gained bytes, then x, then zeros, or ones. -/
def wid (ds : List Int) (x : Int) (fill : Bool) : Int := (val ds * 4294967296 + x) * 256 ^ (4 - ds.length) + (if fill = true then 256 ^ (4 - ds.length) - 1 else 0)

/-- The interval [lo, hi] behind the bytes ds spells the part [lo0, hi0]. -/
def Inv (lo0 hi0 : Int) (ds : List Int) (lo hi : Int) : Prop :=
  ds.length ≤ 4 ∧ (∀ d ∈ ds, 0 ≤ d ∧ d ≤ 255) ∧ (0 ≤ lo ∧ lo < 4294967296) ∧ (0 ≤ hi ∧ hi < 4294967296) ∧ wid ds lo false = lo0 * 4294967296 ∧ wid ds hi true = hi0 * 4294967296 + 4294967295

theorem inv_start (lo hi : Int) (h1 : 0 ≤ lo ∧ lo < 4294967296) (h2 : 0 ≤ hi ∧ hi < 4294967296) : Inv lo hi [] lo hi := by
  refine ⟨by simp, by simp, h1, h2, ?_, ?_⟩
  · simp [wid, val_nil]
  · simp [wid, val_nil]

theorem inv_step {lo0 hi0 : Int} {ds : List Int} {lo hi : Int} (h : Inv lo0 hi0 ds lo hi) (he : lo / 16777216 = hi / 16777216) :
    ds.length < 4 ∧ Inv lo0 hi0 (ds ++ [hi / 16777216]) (lo * 256 % 4294967296) (hi * 256 % 4294967296 + 255) := by
  obtain ⟨hl, hd, ⟨l0, l1⟩, ⟨g0, g1⟩, e1, e2⟩ := h
  simp only [wid] at e1 e2
  have hl4 : ds.length < 4 := by
    rcases (show ds.length < 4 ∨ ds.length = 4 from by omega) with h | h
    · exact h
    · rw [h] at e1 e2; simp at e1 e2; omega
  refine ⟨hl4, by simp; omega, ?_, by omega, by omega, ?_, ?_⟩
  · intro d hdm
    simp only [List.mem_append, List.mem_singleton] at hdm
    rcases hdm with h | h
    · exact hd d h
    · omega
  · simp only [wid, val_snoc, List.length_append, List.length_singleton]
    rcases (show ds.length = 0 ∨ ds.length = 1 ∨ ds.length = 2 ∨ ds.length = 3 from by omega) with h | h | h | h <;> rw [h] at e1 e2 ⊢ <;> simp at e1 e2 ⊢ <;> omega
  · simp only [wid, val_snoc, List.length_append, List.length_singleton]
    rcases (show ds.length = 0 ∨ ds.length = 1 ∨ ds.length = 2 ∨ ds.length = 3 from by omega) with h | h | h | h <;> rw [h] at e1 e2 ⊢ <;> simp at e1 e2 ⊢ <;> omega

/-! ### the split -/
def mid (lo hi p : Int) : Int := lo + (hi - lo) * p / 4096
theorem prod_range (lo hi p : Int) (h : lo < hi) (p0 : 0 ≤ p) (p1 : p ≤ 4095) : 0 ≤ (hi - lo) * p ∧ (hi - lo) * p ≤ (hi - lo) * 4095 :=
  ⟨Int.mul_nonneg (by omega) p0, Int.mul_le_mul_of_nonneg_left p1 (by omega)⟩
theorem mid_range (lo hi p : Int) (h : lo < hi) (p0 : 0 ≤ p) (p1 : p ≤ 4095) : lo ≤ mid lo hi p ∧ mid lo hi p < hi := by
  obtain ⟨a, b⟩ := prod_range lo hi p h p0 p1
  unfold mid
  omega
theorem mid_mono (lo hi p q : Int) (h : lo < hi) (hpq : p ≤ q) : mid lo hi p ≤ mid lo hi q := by
  have : (hi - lo) * p ≤ (hi - lo) * q := Int.mul_le_mul_of_nonneg_left hpq (by omega)
  unfold mid
  omega

/-- The low end of the bit's part. -/
def newLo (lo hi bit p : Int) : Int := if bit = 0 then mid lo hi p + 1 else lo
/-- The high end of the bit's part. -/
def newHi (lo hi bit p : Int) : Int := if bit = 0 then hi else mid lo hi p

theorem val_range (ds : List Int) (hd : ∀ d ∈ ds, 0 ≤ d ∧ d ≤ 255) : 0 ≤ val ds ∧ val ds < 256 ^ ds.length := by
  have gen : ∀ n, ∀ ds : List Int, ds.length = n → (∀ d ∈ ds, 0 ≤ d ∧ d ≤ 255) → 0 ≤ val ds ∧ val ds < 256 ^ ds.length := by
    intro n
    induction n with
    | zero => intro ds hl _; rw [List.length_eq_zero_iff.mp hl]; simp [val_nil]
    | succ n ih =>
      intro ds hl hd
      have hne : ds ≠ [] := by intro e; subst e; simp at hl
      have e := List.dropLast_concat_getLast hne
      have h1 := ih ds.dropLast (by simp; omega) (fun d h => hd d ((List.dropLast_sublist ds).subset h))
      have h2 := hd (ds.getLast hne) (List.getLast_mem hne)
      rw [← e, val_snoc]
      simp only [List.length_append, List.length_singleton]
      rw [Int.pow_succ]
      omega
  exact gen _ ds rfl hd
end Go.Proofs.Qxb6606424a.Coder
