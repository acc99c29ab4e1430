/-
  THE WALK OF FnIsBase64URLAcceptsEveryEncodingAndRefusesExtras (5).
-/
import Derived.Test.Qxb6605459aConv
import Derived.OpenShut
import Derived.ChangeOld
namespace Go.Proofs.Qxb6605459a
open Go.ChangeShapes Go.WideShapes Go.ChangeAt Go.RowKit
open B64
set_option linter.unusedVariables false

/-- WHAT THE WALK IS TOLD OF A SLICE OF INTEGERS THAT CAME IN: it is nil; or it leads to a row of 'cap' cells, the numbers 'zs' (the first 'len' are its elements, the rest its spare room), each fitting its kind. -/
def IsRow (k : IntKind) (w : World) (a : Option Addr) (len cap : Nat) (zs : List Int) : Prop :=
  (a = none ∧ len = 0 ∧ cap = 0 ∧ zs = []) ∨
  ∃ x, a = some x ∧ len ≤ cap ∧ cap ≤ maxLen ∧ zs.length = cap ∧ (∀ i, i < zs.length → w.cell? (x.add i) = some (.int k (zs.getD i 0))) ∧ ∀ n ∈ zs, (Lit.int k n).wf = true

/-- The three answers at the spelling S of bytes that were encoded, and the sizes that the calls ask. -/
theorem three (S : ByteArray) (zs : List Int) (hS : bl S = enc zs) (hr : ∀ x ∈ zs, 0 ≤ x ∧ x ≤ 255) (hl : zs.length ≤ 524288) :
    isB64 (bl S) = true ∧ isB64 (bl (S ++ ⟨#[61]⟩)) = false ∧ isB64 (bl (S ++ ⟨#[10]⟩)) = false ∧ S.size ≤ maxLen ∧ (S ++ ⟨#[61]⟩).size ≤ maxLen ∧ (S ++ ⟨#[10]⟩).size ≤ maxLen ∧ S.size ≤ 2097152 := by
  have hsz : S.size ≤ 2097152 := by rw [← bl_len, hS]; have := enc_len zs; omega
  have e1 : (⟨#[61]⟩ : ByteArray).size = 1 := rfl
  have e2 : (⟨#[10]⟩ : ByteArray).size = 1 := rfl
  refine ⟨by rw [hS]; exact isB64_enc zs hr, ?_, ?_, ?_, ?_, ?_, hsz⟩
  · rw [bl_append]; exact isB64_extra _ _ (by decide)
  · rw [bl_append]; exact isB64_extra _ _ (by decide)
  · unfold maxLen; omega
  · rw [ByteArray.size_append, e1]; unfold maxLen; omega
  · rw [ByteArray.size_append, e2]; unfold maxLen; omega

/-! ### STEP 1: THE WALK: the Go text returns true, AND WRITES NOTHING THAT WAS THERE: 'Below w.heap.size w w'' (Derived/Below.lean: '.refl', '.alloc', '.drew', '.setCell' at a new block, '.trans'). Open each 'IsRow' by 'rcases' AHEAD of 'go_enter'; part every test ahead of the walk. -/
set_option maxHeartbeats 400000 in
theorem accepts_walk (a0 : Option Addr) (len0 cap0 : Nat) (z0 : List Int) (w : World) (w0 : IsRow .u8 w a0 len0 cap0 z0) :
    Calls Try.prog 5 #[.slice a0 len0 cap0] w fun e w' => e = .returned (.bool true) ∧ Below w.heap.size w w' := by
  by_cases h20 : 1048576 < (len0 : Int)
  · go_enter Try.func5, Try.ntmps5
    go_wp2
    go_ret
    exact ⟨rfl, Below.refl _ _⟩
  by_cases h19 : 524288 < (len0 : Int)
  · go_enter Try.func5, Try.ntmps5
    go_wp2
    go_ret
    exact ⟨rfl, Below.refl _ _⟩
  have hn1 : len0 ≤ 524288 := by omega
  have hn2 : len0 ≤ 1048576 := by omega
  rcases w0 with ⟨rfl, rfl, rfl, rfl⟩ | ⟨x, rfl, hl, hm, hz, hcell, hwf⟩
  · go_enter Try.func5, Try.ntmps5
    go_wp2_with (first | (go_at_call 14; refine (clone_nil _).mono ?_; rintro e w' ⟨rfl, rfl⟩) | (go_at_call 15; refine (encode_none _ _ _).mono ?_; rintro e w' ⟨v, rfl, hown, hB⟩; obtain ⟨S, hS, hconv⟩ := conv_own hown (by simp); obtain ⟨q1, q2, q3, q4, q5, q6, q7⟩ := three S [] hS (by simp) (by simp)) | (go_at_call 11; refine (isB64_shim _ q4 _).mono ?_; rw [q1]; rintro e w' ⟨rfl, rfl⟩) | (go_at_call 11; refine (isB64_shim _ q5 _).mono ?_; rw [q2]; rintro e w' ⟨rfl, rfl⟩) | (go_at_call 11; refine (isB64_shim _ q6 _).mono ?_; rw [q3]; rintro e w' ⟨rfl, rfl⟩) | go_in)
    go_ret
    exact ⟨rfl, hB⟩
  · by_cases h0 : len0 = 0
    · subst h0
      go_enter Try.func5, Try.ntmps5
      go_wp2_with (first | (go_at_call 14; refine (clone_empty _ _ _).mono ?_; rintro e w1 ⟨rfl, hB1⟩) | (go_at_call 15; refine (encode_none _ _ _).mono ?_; rintro e w2 ⟨v, rfl, hown, hB⟩; obtain ⟨S, hS, hconv⟩ := conv_own hown (by simp); obtain ⟨q1, q2, q3, q4, q5, q6, q7⟩ := three S [] hS (by simp) (by simp)) | (go_at_call 11; refine (isB64_shim _ q4 _).mono ?_; rw [q1]; rintro e w' ⟨rfl, rfl⟩) | (go_at_call 11; refine (isB64_shim _ q5 _).mono ?_; rw [q2]; rintro e w' ⟨rfl, rfl⟩) | (go_at_call 11; refine (isB64_shim _ q6 _).mono ?_; rw [q3]; rintro e w' ⟨rfl, rfl⟩) | go_in)
      go_ret
      exact ⟨rfl, hB1.trans (hB.mono hB1.size)⟩
    · obtain ⟨b, off, spot⟩ := x
      have c00 := hcell 0 (by omega)
      have hspot : spot = none := by simpa [Addr.add] using World.cell?_spot c00
      subst hspot
      have hr : ∀ y ∈ z0.take len0, 0 ≤ y ∧ y ≤ 255 := fun y hy => bounds_u8 (hwf y (List.mem_of_mem_take hy))
      have hlen : (z0.take len0).length = len0 := by simp; omega
      have hrow : RowB w b off len0 (z0.take len0) := by
        refine ⟨hlen, hr, ?_, ?_⟩
        · exact lt_of_cell (o := off) (by simpa [Addr.add] using c00)
        · intro i hi
          have := hcell i (by omega)
          rw [add_plain] at this
          rw [this]
          simp [List.getD_eq_getElem?_getD, hi]
      have hre : ∀ y ∈ enc (z0.take len0), 0 ≤ y ∧ y ≤ 255 := enc_range _ hr
      have hle := hlen
      obtain ⟨Z, hZ⟩ : ∃ Z, Z = z0.take len0 := ⟨_, rfl⟩
      rw [← hZ] at hr hlen hrow hre
      clear hZ hcell hwf c00 hle hz hm hl
      have HL : Hid (Z.length = len0) := hlen
      clear hlen
      go_enter Try.func5, Try.ntmps5
      go_wp2_with (first | (go_at_call 14; refine (clone_row b off len0 cap0 Z _ hn2 hrow).mono ?_; rintro e w1 ⟨rfl, hown1, hB1⟩; have hrow1 := hown1.row HL.out hr) | (go_at_call 15; refine (encode_any _ _ _ _ Z _ hn2 hrow1).mono ?_; rintro e w2 ⟨v, rfl, hown, hB⟩; obtain ⟨S, hS, hconv⟩ := conv_own hown hre; obtain ⟨q1, q2, q3, q4, q5, q6, q7⟩ := three S Z hS hr (by rw [HL.out]; exact hn1)) | (go_at_call 11; refine (isB64_shim _ q4 _).mono ?_; rw [q1]; rintro e w' ⟨rfl, rfl⟩) | (go_at_call 11; refine (isB64_shim _ q5 _).mono ?_; rw [q2]; rintro e w' ⟨rfl, rfl⟩) | (go_at_call 11; refine (isB64_shim _ q6 _).mono ?_; rw [q3]; rintro e w' ⟨rfl, rfl⟩) | go_in)
      go_ret
      exact ⟨rfl, hB1.trans (hB.mono hB1.size)⟩
end Go.Proofs.Qxb6605459a
