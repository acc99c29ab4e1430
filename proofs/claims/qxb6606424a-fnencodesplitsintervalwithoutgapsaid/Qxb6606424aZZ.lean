/-
  THE WALK OF ZZEncode (8).
-/
import Derived.Test.Qxb6606424aEncode
namespace Go.Proofs.Qxb6606424a
open Go.ChangeShapes Go.WideShapes Go.ChangeAt Go.RowKit
open Coder
set_option linter.unusedVariables false

/-- What encode leaves. -/
def Left3 (w w' : World) (sb base : Nat) (bs : List Int) (L H : Int) : Prop :=
  ∃ lo' hi' v' ds, St w' sb lo' hi' v' ∧ OwnB w' base v' (bs ++ ds) ∧ Inv L H ds lo' hi' ∧ ¬ lo' / 16777216 = hi' / 16777216 ∧ Below base w w'

theorem encode_any (sb base : Nat) (lo hi bit p : Int) (v : Value) (bs : List Int) (w : World) (hst : St w sb lo hi v) (hown : OwnB w base v bs) (hbs : base ≤ sb) (hlen : bs.length ≤ 1048576)
    (l0 : 0 ≤ lo) (lh : lo < hi) (h1 : hi < 4294967296) (p0 : 0 ≤ p) (p1 : p ≤ 4095) :
    Calls Try.prog 14 #[.pointer (some ⟨sb, 0, none⟩), .int .i64 bit, .int .i32 p] w fun e w' => e = .returned (.tuple #[]) ∧ Left3 w w' sb base bs (newLo lo hi bit p) (newHi lo hi bit p) := by
  by_cases hb : bit = 0
  · subst hb
    exact encode_zero sb base lo hi p v bs w hst hown hbs hlen l0 lh h1 p0 p1
  · have e1 : newLo lo hi bit p = lo := by simp [newLo, hb]
    have e2 : newHi lo hi bit p = mid lo hi p := by simp [newHi, hb]
    rw [e1, e2]
    exact encode_one sb base lo hi bit p v bs w hst hown hbs hlen l0 lh h1 (by simpa using hb) p0 p1

/-- What ZZEncode hands back. -/
def Gave (e : Ending) (w w' : World) (base : Nat) (bs : List Int) (L H : Int) : Prop :=
  ∃ lo' hi' v' ds, e = .returned (.tuple #[.int .u32 lo', .int .u32 hi', v']) ∧ OwnB w' base v' (bs ++ ds) ∧ Inv L H ds lo' hi' ∧ ¬ lo' / 16777216 = hi' / 16777216 ∧ Below base w w'

set_option maxHeartbeats 1000000 in
theorem zzencode_any (base : Nat) (lo hi bit p : Int) (a : Option Addr) (n c : Nat) (bs : List Int) (w : World) (hown : OwnB w base (.slice a n c) bs) (hb : base ≤ w.heap.size) (hlen : bs.length ≤ 1048576)
    (l0 : 0 ≤ lo) (lh : lo < hi) (h1 : hi < 4294967296) (p0 : 0 ≤ p) (p1 : p ≤ 4095) :
    Calls Try.prog 8 #[.int .u32 lo, .int .u32 hi, .slice a n c, .int .i64 bit, .int .i32 p] w fun e w' => Gave e w w' base bs (newLo lo hi bit p) (newHi lo hi bit p) := by
  have hst : St (w.alloc (.cells #[.int .u32 lo, .int .u32 hi, .slice a n c] 38)) w.heap.size lo hi (.slice a n c) := by
    show (w.heap.push _)[w.heap.size]? = _
    simp
  have hown1 : OwnB (w.alloc (.cells #[.int .u32 lo, .int .u32 hi, .slice a n c] 38)) base (.slice a n c) bs := World.ownsRow.alloc hown _
  have HS : Hid (St (w.alloc (.cells #[.int .u32 lo, .int .u32 hi, .slice a n c] 38)) w.heap.size lo hi (.slice a n c)) := hst
  clear hst
  go_enter Try.func8, Try.ntmps8
  go_wp2_with fail
  refine (encode_any w.heap.size base lo hi bit p (.slice a n c) bs _ HS.out hown1 hb hlen l0 lh h1 p0 p1).mono ?_
  rintro e w1 ⟨rfl, lo', hi', v', ds, hst1, hown2, hinv, hne, hB1⟩
  have hB2 : Below base w w1 := ((Below.refl base w).alloc hb _).trans hB1
  have c0 := hst1.c0
  have c1 := hst1.c1
  have c2 := hst1.c2
  have HI : Hid (OwnB w1 base v' (bs ++ ds) ∧ Inv (newLo lo hi bit p) (newHi lo hi bit p) ds lo' hi' ∧ ¬ lo' / 16777216 = hi' / 16777216 ∧ Below base w w1) := ⟨hown2, hinv, hne, hB2⟩
  clear hown2 hinv hne hB2 hB1 hown1 HS hown
  go_wp2_with fail
  go_quiet (fail)
  go_wp2_with fail
  go_ret3
  exact ⟨lo', hi', v', ds, rfl, HI.out.1, HI.out.2.1, HI.out.2.2.1, HI.out.2.2.2.trans (below_dr _ _ _)⟩
end Go.Proofs.Qxb6606424a
