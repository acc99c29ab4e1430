/-
  FnEncodeSplitsIntervalWithoutGap (4): all its ways.
-/
import Derived.Test.Qxb6606424aSplit
namespace Go.Proofs.Qxb6606424a
open Go.ChangeShapes Go.WideShapes Go.ChangeAt Go.RowKit
open Coder
set_option linter.unusedVariables false

set_option maxRecDepth 100000 in
set_option maxHeartbeats 1000000 in
theorem split_walk (a0 : Int) (a1 : Int) (a2 : Option Addr) (len2 cap2 : Nat) (z2 : List Int) (a3 : Int) (a4 : Int) (w : World) (w0 : (Lit.int .u32 a0).wf = true) (w1 : (Lit.int .u32 a1).wf = true) (w2 : IsRow .u8 w a2 len2 cap2 z2) (w3 : (Lit.int .i32 a3).wf = true) (w4 : (Lit.int .i32 a4).wf = true) :
    Calls Try.prog 4 #[.int .u32 a0, .int .u32 a1, .slice a2 len2 cap2, .int .i32 a3, .int .i32 a4] w fun e w' => e = .returned (.bool true) ∧ Below w.heap.size w w' := by
  obtain ⟨hrow, hnil, hmax⟩ := w2.row
  have hx : len2 ≤ 9223372036854775807 := hmax
  obtain ⟨u0, u0'⟩ := bounds_u32 w0
  obtain ⟨u1, u1'⟩ := bounds_u32 w1
  clear w0 w1 w2 w3 w4 hmax
  by_cases h20 : 1048576 < (len2 : Int)
  · go_enter Try.func4, Try.ntmps4
    go_wp2_with (go_at_call 11; go_in)
    go_ret
    exact ⟨rfl, Below.refl _ _⟩
  by_cases h16 : 65536 < (len2 : Int)
  · go_enter Try.func4, Try.ntmps4
    go_wp2_with (go_at_call 11; go_in)
    go_ret
    exact ⟨rfl, Below.refl _ _⟩
  by_cases hp0 : a3 < 0
  · go_enter Try.func4, Try.ntmps4
    go_wp2_with (go_at_call 11; go_in)
    go_ret
    exact ⟨rfl, Below.refl _ _⟩
  by_cases hp1 : 4095 < a3
  · go_enter Try.func4, Try.ntmps4
    go_wp2_with (go_at_call 11; go_in)
    go_ret
    exact ⟨rfl, Below.refl _ _⟩
  by_cases hq0 : a4 < 0
  · go_enter Try.func4, Try.ntmps4
    go_wp2_with (go_at_call 11; go_in)
    go_ret
    exact ⟨rfl, Below.refl _ _⟩
  by_cases hq1 : 4095 < a4
  · go_enter Try.func4, Try.ntmps4
    go_wp2_with (go_at_call 11; go_in)
    go_ret
    exact ⟨rfl, Below.refl _ _⟩
  by_cases hle : a1 ≤ a0
  · go_enter Try.func4, Try.ntmps4
    go_wp2_with (go_at_call 11; go_in)
    go_ret
    exact ⟨rfl, Below.refl _ _⟩
  by_cases hpq : a4 < a3
  · exact split_swap a0 a1 a2 len2 cap2 (z2.take len2) a3 a4 w u0 u1' hle hp0 hp1 hq0 hq1 hpq h16 hrow hnil
  · exact split_keep a0 a1 a2 len2 cap2 (z2.take len2) a3 a4 w u0 u1' hle hp0 hp1 hq0 hq1 hpq h16 hrow hnil
end Go.Proofs.Qxb6606424a
