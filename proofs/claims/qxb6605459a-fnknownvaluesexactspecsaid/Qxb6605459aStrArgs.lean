/-
  A []string THAT CAME IN, AS THE WALKS ARE TOLD OF IT.
-/
import Derived.Test.Qxb6605459aStrs
import Derived.SliceStrings
import Derived.OpenShut
import Derived.ChangeOld
namespace Go.Proofs.Qxb6605459a
open Go.ChangeShapes Go.WideShapes Go.ChangeAt Go.RowKit
set_option linter.unusedVariables false

theorem below_of_cell {w : World} {a : Addr} {v : Value} (h : w.cell? a = some v) : a.block < w.heap.size := by
  by_cases hb : a.block < w.heap.size
  · exact hb
  · have e : w.heap[a.block]? = none := Array.getElem?_eq_none (by omega)
    simp [World.cell?, e] at h

theorem row_of_strings {w : World} {x : Addr} {len cap : Nat} {ss : List ByteArray} (hl : len ≤ cap) (hz : ss.length = cap)
    (hcell : ∀ i, i < ss.length → w.cell? (x.add i) = some (.string (ss.getD i ByteArray.empty))) : RowS w (some x) len (ss.take len) := by
  refine ⟨by simp; omega, fun h0 => ?_⟩
  obtain ⟨b, off, spot⟩ := x
  have c00 := hcell 0 (by omega)
  have hspot : spot = none := by simpa [Addr.add] using World.cell?_spot c00
  subst hspot
  refine ⟨b, off, rfl, below_of_cell c00, fun i hi => ?_⟩
  have := hcell i (by omega)
  rw [add_plain] at this
  rw [this]
  simp [List.getD_eq_getElem?_getD, hi]

set_option maxRecDepth 100000 in
/-- Any []string argument, opened. -/
theorem open_words {H : Type} {enc : TypeId × Value → H} {W : World} {a : Option Addr} {len cap : Nat} {d : DataW H} {p : List MemPlace} {base : Nat} {held : Bool}
    (h : DataW.Trod enc Try.prog W base (fun _ => true) held 30 (.slice a len cap) d p) : ∃ ss, RowS W a len ss ∧ len ≤ maxLen ∧ (a = none → len = 0 ∧ cap = 0) := by
  obtain ⟨fuel, hf⟩ := h
  rcases open_strings Try.underlying30 Try.underlying9 (by kernel_rfl) hf with ⟨hcs, _⟩ | ⟨x, l, c, ss, hcs, _, hl, hm, hz, _, hcell, _⟩
  · simp [Value.cells] at hcs
    obtain ⟨rfl, rfl, rfl⟩ := hcs
    exact ⟨[], ⟨rfl, fun h => absurd h (Nat.lt_irrefl _)⟩, Nat.zero_le _, fun _ => ⟨rfl, rfl⟩⟩
  · simp [Value.cells] at hcs
    obtain ⟨rfl, rfl, rfl⟩ := hcs
    exact ⟨ss.take len, row_of_strings hl (by simpa using hz) hcell, by omega, fun h => by cases h⟩
end Go.Proofs.Qxb6605459a
