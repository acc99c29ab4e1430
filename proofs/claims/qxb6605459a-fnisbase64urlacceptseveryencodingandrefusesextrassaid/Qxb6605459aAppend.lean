/-
  'out = append(out, x)' of one byte onto a row of the call's own; the bit sums of zzEncode in plain numbers.
-/
import Derived.Test.Qxb6605459aIsB64
import Derived.Deep.QuietTactic
import Derived.BigQuiet
namespace Go.Proofs.Qxb6605459a
open Go.RowKit
open B64
set_option linter.unusedVariables false

theorem Try.info5 : (Try.prog.info? 5).map (fun i => (i.zero, i.size, i.bytes)) = some (some (.int .u8 0), 1, 1) := by kernel_rfl

/-- The bytes that a slice of the call's own holds. -/
def OwnB (w : World) (base : Nat) (v : Value) (bs : List Int) : Prop := w.ownsRow base 5 1 v bs.length (bs.map (Value.int .u8))

theorem OwnB.drewN {w : World} {base : Nat} {v : Value} {bs : List Int} (h : OwnB w base v bs) (n : Nat) : OwnB (w.drewN n) base v bs := h

theorem wpList_append_u8 {W : World} {ops : Array Oper} {rest : List Oper} {o : Oper} {a : Act} {Q : Exit → Act → World → Prop} (hgd : o.guard = none) (s x : Operand)
    (ho : o.op = .call { callee := .builtin .append, args := #[s, x], argTypes := #[27, 27] })
    (base : Nat) (v : Value) (bs : List Int) (y : Int) (hown : OwnB W base v bs) (hs : a.eval s = v) (hx : a.eval x = .slice (some ⟨W.heap.size, 0, none⟩) 1 1)
    (hbnd : bs.length + 1 ≤ 140737488355328) (hbase : base ≤ W.heap.size)
    (h : ∀ v' w', OwnB w' base v' (bs ++ [y]) → Below base W w' → base ≤ w'.heap.size → wpList Try.prog ops Q rest (a.put o.dst v') w') :
    wpList Try.prog ops Q (o :: rest) a (W.alloc (.cells #[.int .u8 y] 5)) := by
  obtain ⟨i0, hi, hz0, hz1, hz2⟩ := info_parts Try.info5
  refine wpList_append_own (P := Try.prog) (W.alloc (.cells #[.int .u8 y] 5)) hgd s x 27 ho base 5 i0 (.int .u8 0) 1 1 Try.underlying27 hi hz0 hz1 hz2 rfl (by decide) v bs.length (bs.map (Value.int .u8)) hs (World.ownsRow.alloc hown _)
    ⟨W.heap.size, 0, none⟩ 1 1 [.int .u8 y] hx rfl ?_ ?_ (by unfold maxLen; omega) (by omega) (by simp; omega) ?_
  · intro j u hj
    match j, hj with
    | 0, hj => simp at hj; subst hj; simp [Addr.add]
  · intro u hu; simp at hu; subst hu; rfl
  · intro v' w' hown' hgrow _
    have e : (bs ++ [y]).length = bs.length + 1 := by simp
    have hB : Below base W w' := (((Below.refl base W).alloc hbase _).grown hgrow (by simp; omega) (fun k hk => (World.ownsRow.lt hown k hk).1))
    have hs' := hB.size
    refine h v' w' ?_ hB (by omega)
    unfold OwnB
    rw [e, List.map_append]
    exact hown'

/-! ### the bit sums -/
theorem wraps_u32 (n : Int) (h₀ : 0 ≤ n) (h₁ : n < 2 ^ 32) : IntKind.u32.wrap n = n := by rw [IntKind.wrap_u32]; omega
theorem u32_or8 (x y : Int) (h0 : 0 ≤ x) (h : x % 256 = 0) (h1 : x < 4294967296) (g0 : 0 ≤ y) (g1 : y < 256) : bits .or .u32 x y = x + y :=
  bits_join .u32 32 (by decide) wraps_u32 8 x y h0 h h1 g0 g1 (by omega)
theorem u32_or16 (x y : Int) (h0 : 0 ≤ x) (h : x % 65536 = 0) (h1 : x < 4294967296) (g0 : 0 ≤ y) (g1 : y < 65536) : bits .or .u32 x y = x + y :=
  bits_join .u32 32 (by decide) wraps_u32 16 x y h0 h h1 g0 g1 (by omega)
theorem u32_or6 (x y : Int) (h0 : 0 ≤ x) (h : x % 64 = 0) (h1 : x < 4294967296) (g0 : 0 ≤ y) (g1 : y < 64) : bits .or .u32 x y = x + y :=
  bits_join .u32 32 (by decide) wraps_u32 6 x y h0 h h1 g0 g1 (by omega)
theorem u32_and63 (x : Int) (h0 : 0 ≤ x) (h1 : x < 4294967296) : bits .and .u32 x 63 = x % 64 :=
  bits_mask .u32 32 (by decide) wraps_u32 6 (by decide) x h0 h1
theorem or3 (x0 x1 x2 : Int) (r0 : 0 ≤ x0 ∧ x0 ≤ 255) (r1 : 0 ≤ x1 ∧ x1 ≤ 255) (r2 : 0 ≤ x2 ∧ x2 ≤ 255) :
    bits .or .u32 (bits .or .u32 (x0 * 65536) (x1 * 256)) x2 = x0 * 65536 + x1 * 256 + x2 := by
  rw [u32_or16 (x0 * 65536) (x1 * 256) (by omega) (by omega) (by omega) (by omega) (by omega), u32_or8 _ _ (by omega) (by omega) (by omega) (by omega) (by omega)]
theorem or2 (x0 x1 : Int) (r0 : 0 ≤ x0 ∧ x0 ≤ 255) (r1 : 0 ≤ x1 ∧ x1 ≤ 255) :
    bits .or .u32 (x0 * 65536) (x1 * 256) = x0 * 65536 + x1 * 256 := by
  rw [u32_or16 _ _ (by omega) (by omega) (by omega) (by omega) (by omega)]

/-- The sextet of a number at a place, as a natural number below 64. -/
theorem sextet_of (y : Int) (h0 : 0 ≤ y) (h1 : y < 4294967296) : ∃ s : Nat, s < 64 ∧ bits .and .u32 y 63 = (s : Int) ∧ (s : Int) = y % 64 :=
  ⟨(y % 64).toNat, by omega, by rw [u32_and63 y h0 h1]; omega, by omega⟩

theorem enc_append : ∀ (l r : List Int), l.length % 3 = 0 → enc (l ++ r) = enc l ++ enc r
  | [], r, _ => by simp [enc]
  | [_], _, h => by simp at h
  | [_, _], _, h => by simp at h
  | a :: b :: c :: l, r, h => by
    have := enc_append l r (by simp only [List.length_cons] at h; omega)
    simp only [List.cons_append, enc, this]

theorem enc_three (x0 x1 x2 X : Int) (s0 s1 s2 s3 : Nat) (r0 : 0 ≤ x0 ∧ x0 ≤ 255) (r1 : 0 ≤ x1 ∧ x1 ≤ 255) (r2 : 0 ≤ x2 ∧ x2 ≤ 255) (hX : X = x0 * 65536 + x1 * 256 + x2)
    (h0 : (s0 : Int) = X / 262144 % 64) (h1 : (s1 : Int) = X / 4096 % 64) (h2 : (s2 : Int) = X / 64 % 64) (h3 : (s3 : Int) = X % 64) :
    enc [x0, x1, x2] = [alph s0, alph s1, alph s2, alph s3] := by
  have e0 : x0 / 4 = (s0 : Int) := by omega
  have e1 : x0 % 4 * 16 + x1 / 16 = (s1 : Int) := by omega
  have e2 : x1 % 16 * 4 + x2 / 64 = (s2 : Int) := by omega
  have e3 : x2 % 64 = (s3 : Int) := by omega
  simp only [enc, e0, e1, e2, e3]
theorem enc_two (x0 x1 X : Int) (s0 s1 s2 : Nat) (r0 : 0 ≤ x0 ∧ x0 ≤ 255) (r1 : 0 ≤ x1 ∧ x1 ≤ 255) (hX : X = x0 * 65536 + x1 * 256)
    (h0 : (s0 : Int) = X / 262144 % 64) (h1 : (s1 : Int) = X / 4096 % 64) (h2 : (s2 : Int) = X / 64 % 64) :
    enc [x0, x1] = [alph s0, alph s1, alph s2] := by
  have e0 : x0 / 4 = (s0 : Int) := by omega
  have e1 : x0 % 4 * 16 + x1 / 16 = (s1 : Int) := by omega
  have e2 : x1 % 16 * 4 = (s2 : Int) := by omega
  simp only [enc, e0, e1, e2]
theorem enc_one (x0 X : Int) (s0 s1 : Nat) (r0 : 0 ≤ x0 ∧ x0 ≤ 255) (hX : X = x0 * 65536)
    (h0 : (s0 : Int) = X / 262144 % 64) (h1 : (s1 : Int) = X / 4096 % 64) :
    enc [x0] = [alph s0, alph s1] := by
  have e0 : x0 / 4 = (s0 : Int) := by omega
  have e1 : x0 % 4 * 16 = (s1 : Int) := by omega
  simp only [enc, e0, e1]

theorem take_three (zs : List Int) (k : Nat) (h : k + 3 ≤ zs.length) : zs.take (k + 3) = zs.take k ++ [zs.getD k 0, zs.getD (k + 1) 0, zs.getD (k + 2) 0] := by
  apply List.ext_getElem?
  intro i
  rw [List.getElem?_take, List.getElem?_append]
  have hl : (zs.take k).length = k := by simp; omega
  rw [hl]
  by_cases h1 : i < k
  · simp [h1, show i < k + 3 from by omega]
  · rcases (show i = k ∨ i = k + 1 ∨ i = k + 2 ∨ k + 3 ≤ i from by omega) with e | e | e | e
    · subst e; simp [List.getD_eq_getElem?_getD, show i < zs.length from by omega]
    · subst e; simp [List.getD_eq_getElem?_getD, show k + 1 < zs.length from by omega]; omega
    · subst e; simp [List.getD_eq_getElem?_getD, show k + 2 < zs.length from by omega]; omega
    · simp [h1, show ¬ i < k + 3 from by omega]; omega
theorem take_two (zs : List Int) (k : Nat) (h : k + 2 = zs.length) : zs = zs.take k ++ [zs.getD k 0, zs.getD (k + 1) 0] := by
  apply List.ext_getElem?
  intro i
  rw [List.getElem?_append]
  have hl : (zs.take k).length = k := by simp; omega
  rw [hl]
  by_cases h1 : i < k
  · simp [h1]
  · rcases (show i = k ∨ i = k + 1 ∨ k + 2 ≤ i from by omega) with e | e | e
    · subst e; simp [List.getD_eq_getElem?_getD, show i < zs.length from by omega]
    · subst e; simp [List.getD_eq_getElem?_getD, show k + 1 < zs.length from by omega]; omega
    · simp [h1, show zs.length ≤ i from by omega]; omega
theorem take_one (zs : List Int) (k : Nat) (h : k + 1 = zs.length) : zs = zs.take k ++ [zs.getD k 0] := by
  apply List.ext_getElem?
  intro i
  rw [List.getElem?_append]
  have hl : (zs.take k).length = k := by simp; omega
  rw [hl]
  by_cases h1 : i < k
  · simp [h1]
  · rcases (show i = k ∨ k + 1 ≤ i from by omega) with e | e
    · subst e; simp [List.getD_eq_getElem?_getD, show i < zs.length from by omega]
    · simp [h1, show zs.length ≤ i from by omega]; omega
theorem getD_range (zs : List Int) (hr : ∀ x ∈ zs, 0 ≤ x ∧ x ≤ 255) (k : Nat) : 0 ≤ zs.getD k 0 ∧ zs.getD k 0 ≤ 255 := by
  by_cases h : k < zs.length
  · rw [List.getD_eq_getElem?_getD, List.getElem?_eq_getElem h]; exact hr _ (List.getElem_mem h)
  · rw [List.getD_eq_getElem?_getD, List.getElem?_eq_none (by omega)]; simp
theorem enc_take_len (zs : List Int) (k : Nat) : (enc (zs.take k)).length ≤ 4 * zs.length := by
  have := enc_len (zs.take k); have : (zs.take k).length ≤ zs.length := by simp; omega
  omega
end Go.Proofs.Qxb6605459a
