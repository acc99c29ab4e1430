/-
  string(bytes) of a row of the call's own.
-/
import Derived.Test.Qxb6605459aClone
namespace Go.Proofs.Qxb6605459a
open Go.RowKit
open B64
set_option linter.unusedVariables false

def pushAll (bs : List Int) (r : ByteArray) : ByteArray := bs.foldl (fun r n => r.push (UInt8.ofNat n.toNat)) r

theorem bl_push (r : ByteArray) (n : Int) (h : 0 ≤ n ∧ n ≤ 255) : bl (r.push (UInt8.ofNat n.toNat)) = bl r ++ [n] := by
  unfold bl
  simp [ByteArray.push]
  omega

theorem bl_pushAll : ∀ (bs : List Int) (r : ByteArray), (∀ x ∈ bs, 0 ≤ x ∧ x ≤ 255) → bl (pushAll bs r) = bl r ++ bs
  | [], r, _ => by simp [pushAll]
  | x :: bs, r, h => by
    have := bl_pushAll bs (r.push (UInt8.ofNat x.toNat)) (fun y hy => h y (by simp [hy]))
    show bl (pushAll bs (r.push (UInt8.ofNat x.toNat))) = _
    rw [this, bl_push r x (h x (by simp))]
    simp

theorem bl_append (a b : ByteArray) : bl (a ++ b) = bl a ++ bl b := by
  simp [bl]

theorem run_nil_string (w : World) : (convert 27 9 (.slice none 0 0)).run Try.prog w = .ok (.string ByteArray.empty) w := by
  rw [run_convert_bytes_string w 27 9 5 none 0 0 Try.underlying27 Try.underlying5 Try.underlying9]
  rfl

theorem conv_own {w : World} {base : Nat} {v : Value} {bs : List Int} (h : OwnB w base v bs) (hr : ∀ x ∈ bs, 0 ≤ x ∧ x ≤ 255) :
    ∃ S : ByteArray, bl S = bs ∧ (convert 27 9 v).run Try.prog w = .ok (.string S) w := by
  have h0 := h
  rcases h0.2 with ⟨rfl, hn⟩ | ⟨g, cap, cur, rfl, _, _, _, _, _, _⟩
  · refine ⟨ByteArray.empty, ?_, run_nil_string w⟩
    have : bs = [] := List.length_eq_zero_iff.mp hn
    subst this; rfl
  · refine ⟨pushAll bs ByteArray.empty, by rw [bl_pushAll bs _ hr]; rfl, ?_⟩
    rw [run_convert_bytes_string w 27 9 5 _ _ _ Try.underlying27 Try.underlying5 Try.underlying9]
    refine run_bytesToString w _ _ _ bs ?_
    have hc := World.ownsRow.cells h (g := g) rfl
    have := run_loadCells_list (P := Try.prog) (w := w) (⟨g, 0, none⟩ : Addr) (bs.map (Value.int .u8)) hc
    simpa using this
end Go.Proofs.Qxb6605459a
