/-
  THE WALK OF (*encoder).encode (14).
-/
import Derived.Test.Qxb6606424aTop
import Derived.Deep.LoopGhost
import Derived.Deep.RegionLawGrows
namespace Go.Proofs.Qxb6606424a
open Go.ChangeShapes Go.WideShapes Go.ChangeAt Go.RowKit
open Coder
set_option linter.unusedVariables false

/-- The encoder's three fields, in a block of their own. -/
def St (w : World) (sb : Nat) (lo hi : Int) (v : Value) : Prop := w.heap[sb]? = some (.cells #[.int .u32 lo, .int .u32 hi, v] 38 (0, 0))

theorem St.lt {w : World} {sb : Nat} {lo hi : Int} {v : Value} (h : St w sb lo hi v) : sb < w.heap.size := lt_of_block h
theorem St.c0 {w : World} {sb : Nat} {lo hi : Int} {v : Value} (h : St w sb lo hi v) : w.cell? ⟨sb, 0, none⟩ = some (.int .u32 lo) := by unfold St at h; simp [World.cell?, h]
theorem St.c1 {w : World} {sb : Nat} {lo hi : Int} {v : Value} (h : St w sb lo hi v) : w.cell? ⟨sb, 1, none⟩ = some (.int .u32 hi) := by unfold St at h; simp [World.cell?, h]
theorem St.c2 {w : World} {sb : Nat} {lo hi : Int} {v : Value} (h : St w sb lo hi v) : w.cell? ⟨sb, 2, none⟩ = some v := by unfold St at h; simp [World.cell?, h]
theorem St.fr {w : World} {sb : Nat} {lo hi : Int} {v : Value} (h : St w sb lo hi v) (o : Nat) : w.frozen? ⟨sb, o, none⟩ = false := by unfold St at h; simp [World.frozen?, h]
theorem St.set0 {w : World} {sb : Nat} {lo hi : Int} {v : Value} (h : St w sb lo hi v) (x : Int) : St (w.setCell ⟨sb, 0, none⟩ (.int .u32 x)) sb x hi v := by
  have := heap_setCell_same w sb 0 _ 38 (.int .u32 x) h
  simpa [St] using this
theorem St.set1 {w : World} {sb : Nat} {lo hi : Int} {v : Value} (h : St w sb lo hi v) (x : Int) : St (w.setCell ⟨sb, 1, none⟩ (.int .u32 x)) sb lo x v := by
  have := heap_setCell_same w sb 1 _ 38 (.int .u32 x) h
  simpa [St] using this
theorem St.set2 {w : World} {sb : Nat} {lo hi : Int} {v : Value} (h : St w sb lo hi v) (x : Value) : St (w.setCell ⟨sb, 2, none⟩ x) sb lo hi x := by
  have := heap_setCell_same w sb 2 _ 38 x h
  simpa [St] using this
theorem St.drewN {w : World} {sb : Nat} {lo hi : Int} {v : Value} (h : St w sb lo hi v) (n : Nat) : St (w.drewN n) sb lo hi v := h
theorem St.drew {w : World} {sb : Nat} {lo hi : Int} {v : Value} (h : St w sb lo hi v) : St w.drew sb lo hi v := h
theorem St.alloc {w : World} {sb : Nat} {lo hi : Int} {v : Value} (h : St w sb lo hi v) (o : Obj) : St (w.alloc o) sb lo hi v := by
  unfold St at h ⊢; rw [Below.heap_alloc w o sb (lt_of_block h)]; exact h
theorem St.apart {w : World} {sb : Nat} {lo hi : Int} {v u : Value} {base : Nat} {bs : List Int} (h : St w sb lo hi v) (ho : OwnB w base u bs) : u.ownBlock ≠ some sb := by
  intro e
  rcases ho.2 with ⟨rfl, _⟩ | ⟨g, cap, cur, rfl, _, hg, _⟩
  · simp [Value.ownBlock] at e
  · simp [Value.ownBlock] at e
    subst e
    unfold St at h
    rw [h] at hg
    simp at hg
theorem OwnB.setSt {w : World} {sb o : Nat} {lo hi : Int} {v u x : Value} {base : Nat} {bs : List Int} (ho : OwnB w base u bs) (h : St w sb lo hi v) : OwnB (w.setCell ⟨sb, o, none⟩ x) base u bs :=
  ownsRow_setCell_other ho (a := ⟨sb, o, none⟩) (h.apart ho) x
theorem OwnB.drewN {w : World} {base : Nat} {v : Value} {bs : List Int} (h : OwnB w base v bs) (n : Nat) : OwnB (w.drewN n) base v bs := h

/-- 'append(out, x)' of one byte, out a row of the call's own, as one step of a region that draws. -/
theorem step_append_u8 {ops : Array Oper} {o : Oper} {a : Act} {w : World} {K : Act → World → Prop} {Q : Exit → Act → World → Prop} {E : Prop} (hgd : o.guard = none) (s x : Operand)
    (ho : o.op = .call { callee := .builtin .append, args := #[s, x], argTypes := #[23, 23] })
    (base : Nat) (v : Value) (bs : List Int) (y : Int) (g : Nat) (hs : a.eval s = v) (hx : a.eval x = .slice (some ⟨g, 0, none⟩) 1 1) (hown : OwnB w base v bs) (hy : w.cell? ⟨g, 0, none⟩ = some (.int .u8 y))
    (hbnd : bs.length + 1 ≤ 140737488355328) (hbase : base ≤ w.heap.size)
    (h : ∀ v' w', OwnB w' base v' (bs ++ [y]) → w.grownBy w' v.ownBlock → Below base w w' → K (a.put o.dst v') w') :
    if Region.wanted o (yielded ops a.tmps) = true then Oper.wp Try.prog o a w K Q else E := by
  have hw : Region.wanted o (yielded ops a.tmps) = true := by simp [Region.wanted, hgd]
  rw [if_pos hw]
  obtain ⟨i0, hi, hz0, hz1, hz2⟩ := info_parts Try.info5
  obtain ⟨v', w', hrun, r1, r2, _⟩ := run_append_own (P := Try.prog) w base 23 o.type 5 i0 (.int .u8 0) 1 1 Try.underlying23 hi hz0 hz1 hz2 rfl (by decide) v bs.length (bs.map (Value.int .u8)) hown
    ⟨g, 0, none⟩ 1 1 [.int .u8 y] rfl (by intro j u hj; match j, hj with | 0, hj => simp at hj; subst hj; simpa [Addr.add] using hy) (by intro u hu; simp at hu; subst hu; rfl) (by unfold maxLen; omega) (by omega) hbase
  have e : (bs ++ [y]).length = bs.length + 1 := by simp
  have hB : Below base w w' := ((Below.refl base w).grown r2 hbase (fun k hk => (World.ownsRow.lt hown k hk).1))
  unfold Oper.wp
  simp [execOp, ho, resolve, invoke, builtin, hs, hx, hrun, Result.andThen]
  refine h v' w' ?_ r2 hB
  unfold OwnB
  rw [e, List.map_append]
  exact r1
theorem St.grown {w w' : World} {sb : Nat} {lo hi : Int} {v u : Value} {base : Nat} {bs : List Int} (h : St w sb lo hi v) (ho : OwnB w base u bs) (hg : w.grownBy w' u.ownBlock) : St w' sb lo hi v := by
  unfold St at h ⊢
  rw [hg.block sb (lt_of_block h) (fun e => (St.apart (lo := lo) (hi := hi) (v := v) h ho) e.symm)]
  exact h

theorem round_rel {w w1 : World} {sb base : Nat} {lo hi : Int} {v V : Value} {l : List Int} (hst : St w1 sb lo hi v) (hown : OwnB w1 base V l) (hB : Below base w w1) (hbs : base ≤ sb) (a b : Int) :
    St (((w1.setCell ⟨sb, 2, none⟩ V).setCell ⟨sb, 0, none⟩ (.int .u32 a)).setCell ⟨sb, 1, none⟩ (.int .u32 b)) sb a b V ∧
    OwnB (((w1.setCell ⟨sb, 2, none⟩ V).setCell ⟨sb, 0, none⟩ (.int .u32 a)).setCell ⟨sb, 1, none⟩ (.int .u32 b)) base V l ∧
    Below base w (((w1.setCell ⟨sb, 2, none⟩ V).setCell ⟨sb, 0, none⟩ (.int .u32 a)).setCell ⟨sb, 1, none⟩ (.int .u32 b)) := by
  have s2 := hst.set2 V
  have s0 := s2.set0 a
  have o2 : OwnB (w1.setCell ⟨sb, 2, none⟩ V) base V l := hown.setSt hst
  have o0 : OwnB ((w1.setCell ⟨sb, 2, none⟩ V).setCell ⟨sb, 0, none⟩ (.int .u32 a)) base V l := o2.setSt s2
  exact ⟨s0.set1 b, o0.setSt s0, ((hB.setCell hbs _).setCell hbs _).setCell hbs _⟩
theorem or255 (x : Int) : bits .or .u32 (x * 256 % 4294967296) 255 = x * 256 % 4294967296 + 255 :=
  bits_join .u32 32 (by decide) (fun n h₀ h₁ => by rw [IntKind.wrap_u32]; omega) 8 _ _ (by omega) (by omega) (by omega) (by omega) (by omega) (by omega)
theorem cell_new (W : World) (x : Value) : (W.alloc (.cells #[x] 5)).cell? ⟨W.heap.size, 0, none⟩ = some x := by simp
theorem OwnB.form {w : World} {base : Nat} {v : Value} {bs : List Int} {y : Int} (h : OwnB w base v (bs ++ [y])) : ∃ g cap, v = .slice (some ⟨g, 0, none⟩) (bs.length + 1) cap := by
  rcases h.2 with ⟨rfl, hn⟩ | ⟨g, cap, cur, rfl, _, _, _, _, _, _⟩
  · simp at hn
  · exact ⟨g, cap, by simp⟩
theorem low_size {W : World} {base sb : Nat} {lo hi : Int} {v : Value} (h : St W sb lo hi v) (hb : base ≤ sb) (o : Obj) : base ≤ (W.alloc o).heap.size := by
  have := h.lt; simp; omega

theorem below_dr (B : Nat) (w : World) (n : Nat) : Below B w (w.drewN n) := ⟨rfl, rfl, rfl, Nat.le_refl _, fun _ _ => rfl⟩

set_option maxRecDepth 100000 in
set_option maxHeartbeats 2000000 in
/-- The bit is 0. -/
theorem encode_zero (sb base : Nat) (lo hi p : Int) (v : Value) (bs : List Int) (w : World) (hst : St w sb lo hi v) (hown : OwnB w base v bs) (hbs : base ≤ sb) (hlen : bs.length ≤ 1048576)
    (l0 : 0 ≤ lo) (lh : lo < hi) (h1 : hi < 4294967296) (p0 : 0 ≤ p) (p1 : p ≤ 4095) :
    Calls Try.prog 14 #[.pointer (some ⟨sb, 0, none⟩), .int .i64 0, .int .i32 p] w fun e w' => e = .returned (.tuple #[]) ∧
      ∃ lo' hi' v' ds, St w' sb lo' hi' v' ∧ OwnB w' base v' (bs ++ ds) ∧ Inv (mid lo hi p + 1) hi ds lo' hi' ∧ ¬ lo' / 16777216 = hi' / 16777216 ∧ Below base w w' := by
  obtain ⟨q0, q1⟩ := prod_range lo hi p lh p0 p1
  obtain ⟨m0, m1⟩ := mid_range lo hi p lh p0 p1
  obtain ⟨M, hM⟩ : ∃ M, M = (hi - lo) * p := ⟨_, rfl⟩
  have hM' : (hi - lo) * p = M := hM.symm
  rw [← hM] at q0 q1
  have hm : mid lo hi p = lo + M / 4096 := by rw [hM]; rfl
  rw [hm] at m0 m1 ⊢
  have c0 := hst.c0
  have c1 := hst.c1
  have f0 := hst.fr 0
  have f1 := hst.fr 1
  clear hM hm
  obtain ⟨L, hL⟩ : ∃ L, L = lo + M / 4096 + 1 := ⟨_, rfl⟩
  have lL0 : 0 ≤ L := by omega
  have lL1 : L < 4294967296 := by omega
  rw [← hL]
  have hL' : lo + M / 4096 + 1 = L := hL.symm
  clear hL
  go_enter Try.func14, Try.ntmps14
  go_wp2
  go_quiet (fail)
  go_wp2
  have hst1 : St ((w.drewN nq).setCell ⟨sb, 0, none⟩ (.int .u32 L)) sb L hi v := (hst.drewN nq).set0 L
  have hown1 : OwnB ((w.drewN nq).setCell ⟨sb, 0, none⟩ (.int .u32 L)) base v bs := OwnB.setSt (hown.drewN nq) (hst.drewN nq)
  have hB1 : Below base w ((w.drewN nq).setCell ⟨sb, 0, none⟩ (.int .u32 L)) := (below_dr base w nq).setCell hbs _
  clear hst hown c0 c1 f0 f1
  go_loopg [48] 4 (fun k s wr => ∃ lo' hi' v' ds, ds.length + k = 4 ∧ St wr sb lo' hi' v' ∧ OwnB wr base v' (bs ++ ds) ∧ Inv L hi ds lo' hi' ∧ Below base w wr)
  case atStart => exact ⟨L, hi, v, [], rfl, hst1, by simpa using hown1, inv_start L hi ⟨by omega, by omega⟩ ⟨by omega, by omega⟩, hB1⟩
  case round =>
    clear hst1 hown1 hB1
    obtain ⟨lo', hi', v', ds, hdk, hst, hown, hinv, hB⟩ := hrel
    have c0 := hst.c0
    have c1 := hst.c1
    have c2 := hst.c2
    have f0 := hst.fr 0
    have f1 := hst.fr 1
    have f2 := hst.fr 2
    have i3 := hinv.2.2.1
    have i4 := hinv.2.2.2.1
    obtain ⟨i30, i31⟩ := i3
    obtain ⟨i40, i41⟩ := i4
    by_cases ht : lo' / 16777216 = hi' / 16777216
    · have htop := top_yes lo' hi' i30 i31 i40 i41 ht
      have hnext := inv_step hinv ht
      have HNX : Hid (ds.length < 4 ∧ Inv L hi (ds ++ [hi' / 16777216]) (lo' * 256 % 4294967296) (hi' * 256 % 4294967296 + 255)) := hnext
      have HB : Hid ((bs ++ ds).length + 1 ≤ 140737488355328) := by show (bs ++ ds).length + 1 ≤ 140737488355328; rw [List.length_append]; omega
      have hwr : IntKind.u8.wrap (hi' / 16777216) = hi' / 16777216 := by rw [IntKind.wrap_u8]; omega
      have hsbl : sb < wr.heap.size := hst.lt
      have hor := or255 hi'
      have cA : ∀ n o, ((wr.drewN n).alloc o).cell? ⟨sb, 2, none⟩ = some v' := fun n o => (St.alloc (hst.drewN n) o).c2
      clear ht hnext hinv
      go_wp2
      go_quiet (fail)
      go_wp2
      go_region_law (refine step_append_u8 rfl (.tmp 53) (.tmp 60) rfl base v' (bs ++ ds) (hi' / 16777216) wr.heap.size ?_ ?_ ?_ ?_ HB.out ?_ ?_; simp [Act.eval]; simp [Act.eval]; exact World.ownsRow.alloc (hown.drewN (nq + 1)) _; exact cell_new (wr.drewN (nq + 1)) _; exact low_size (hst.drewN (nq + 1)) hbs _; intro v1 w1 hown1 hg1 hB1; have hst1 := St.grown (St.alloc (hst.drewN (nq + 1)) _) (World.ownsRow.alloc (hown.drewN (nq + 1)) _) hg1; obtain ⟨g1, cap1, rfl⟩ := hown1.form; have d0 := hst1.c0; have d1 := hst1.c1; have d2 := hst1.c2; have e0 := hst1.fr 0; have e1 := hst1.fr 1; have e2 := hst1.fr 2)
      all_goals go_wp2
      all_goals
        rw [List.length_append] at hown1
        have R := round_rel hst1 hown1 (((hB.trans (below_dr _ _ _)).alloc (by have := hst.lt; show base ≤ wr.heap.size; omega) _).trans hB1) hbs (lo' * 256 % 4294967296) (hi' * 256 % 4294967296 + 255)
        go_roundg (gk - 1)
        case measure => have := HNX.out.1; omega
        case rel => exact ⟨_, _, _, ds ++ [hi' / 16777216], by have := HNX.out.1; simp; omega, R.1, by rw [← List.append_assoc]; exact R.2.1, HNX.out.2, R.2.2⟩
    · have htop := top_no lo' hi' i30 i31 i40 i41 ht
      have HI : Hid (Inv L hi ds lo' hi' ∧ ¬ lo' / 16777216 = hi' / 16777216) := ⟨hinv, ht⟩
      clear hinv ht
      go_wp2
      go_quiet (fail)
      go_wp2
      go_end0
      exact ⟨rfl, lo', hi', v', ds, hst, hown, HI.out.1, HI.out.2, hB.trans (below_dr _ _ _)⟩
set_option maxRecDepth 100000 in
set_option maxHeartbeats 2000000 in
/-- The bit is not 0. -/
theorem encode_one (sb base : Nat) (lo hi bit p : Int) (v : Value) (bs : List Int) (w : World) (hst : St w sb lo hi v) (hown : OwnB w base v bs) (hbs : base ≤ sb) (hlen : bs.length ≤ 1048576)
    (l0 : 0 ≤ lo) (lh : lo < hi) (h1 : hi < 4294967296) (hbit : (bit == 0) = false) (p0 : 0 ≤ p) (p1 : p ≤ 4095) :
    Calls Try.prog 14 #[.pointer (some ⟨sb, 0, none⟩), .int .i64 bit, .int .i32 p] w fun e w' => e = .returned (.tuple #[]) ∧
      ∃ lo' hi' v' ds, St w' sb lo' hi' v' ∧ OwnB w' base v' (bs ++ ds) ∧ Inv lo (mid lo hi p) ds lo' hi' ∧ ¬ lo' / 16777216 = hi' / 16777216 ∧ Below base w w' := by
  obtain ⟨q0, q1⟩ := prod_range lo hi p lh p0 p1
  obtain ⟨m0, m1⟩ := mid_range lo hi p lh p0 p1
  obtain ⟨M, hM⟩ : ∃ M, M = (hi - lo) * p := ⟨_, rfl⟩
  have hM' : (hi - lo) * p = M := hM.symm
  rw [← hM] at q0 q1
  have hm : mid lo hi p = lo + M / 4096 := by rw [hM]; rfl
  rw [hm] at m0 m1 ⊢
  have c0 := hst.c0
  have c1 := hst.c1
  have f0 := hst.fr 0
  have f1 := hst.fr 1
  clear hM hm
  have hbit' : (bit != 0) = true := by simp [bne, hbit]
  obtain ⟨H, hH⟩ : ∃ H, H = lo + M / 4096 := ⟨_, rfl⟩
  have lH0 : 0 ≤ H := by omega
  have lH1 : H < 4294967296 := by omega
  have lH2 : lo ≤ H := by omega
  rw [← hH]
  have hH' : lo + M / 4096 = H := hH.symm
  clear hH
  go_enter Try.func14, Try.ntmps14
  go_wp2
  go_quiet (fail)
  go_wp2
  have hst1 : St ((w.drewN nq).setCell ⟨sb, 1, none⟩ (.int .u32 H)) sb lo H v := (hst.drewN nq).set1 H
  have hown1 : OwnB ((w.drewN nq).setCell ⟨sb, 1, none⟩ (.int .u32 H)) base v bs := OwnB.setSt (hown.drewN nq) (hst.drewN nq)
  have hB1 : Below base w ((w.drewN nq).setCell ⟨sb, 1, none⟩ (.int .u32 H)) := (below_dr base w nq).setCell hbs _
  clear hst hown c0 c1 f0 f1
  go_loopg [48] 4 (fun k s wr => ∃ lo' hi' v' ds, ds.length + k = 4 ∧ St wr sb lo' hi' v' ∧ OwnB wr base v' (bs ++ ds) ∧ Inv lo H ds lo' hi' ∧ Below base w wr)
  case atStart => exact ⟨lo, H, v, [], rfl, hst1, by simpa using hown1, inv_start lo H ⟨by omega, by omega⟩ ⟨by omega, by omega⟩, hB1⟩
  case round =>
    clear hst1 hown1 hB1
    obtain ⟨lo', hi', v', ds, hdk, hst, hown, hinv, hB⟩ := hrel
    have c0 := hst.c0
    have c1 := hst.c1
    have c2 := hst.c2
    have f0 := hst.fr 0
    have f1 := hst.fr 1
    have f2 := hst.fr 2
    have i3 := hinv.2.2.1
    have i4 := hinv.2.2.2.1
    obtain ⟨i30, i31⟩ := i3
    obtain ⟨i40, i41⟩ := i4
    by_cases ht : lo' / 16777216 = hi' / 16777216
    · have htop := top_yes lo' hi' i30 i31 i40 i41 ht
      have hnext := inv_step hinv ht
      have HNX : Hid (ds.length < 4 ∧ Inv lo H (ds ++ [hi' / 16777216]) (lo' * 256 % 4294967296) (hi' * 256 % 4294967296 + 255)) := hnext
      have HB : Hid ((bs ++ ds).length + 1 ≤ 140737488355328) := by show (bs ++ ds).length + 1 ≤ 140737488355328; rw [List.length_append]; omega
      have hwr : IntKind.u8.wrap (hi' / 16777216) = hi' / 16777216 := by rw [IntKind.wrap_u8]; omega
      have hsbl : sb < wr.heap.size := hst.lt
      have hor := or255 hi'
      have cA : ∀ n o, ((wr.drewN n).alloc o).cell? ⟨sb, 2, none⟩ = some v' := fun n o => (St.alloc (hst.drewN n) o).c2
      clear ht hnext hinv
      go_wp2
      go_quiet (fail)
      go_wp2
      go_region_law (refine step_append_u8 rfl (.tmp 53) (.tmp 60) rfl base v' (bs ++ ds) (hi' / 16777216) wr.heap.size ?_ ?_ ?_ ?_ HB.out ?_ ?_; simp [Act.eval]; simp [Act.eval]; exact World.ownsRow.alloc (hown.drewN (nq + 1)) _; exact cell_new (wr.drewN (nq + 1)) _; exact low_size (hst.drewN (nq + 1)) hbs _; intro v1 w1 hown1 hg1 hB1; have hst1 := St.grown (St.alloc (hst.drewN (nq + 1)) _) (World.ownsRow.alloc (hown.drewN (nq + 1)) _) hg1; obtain ⟨g1, cap1, rfl⟩ := hown1.form; have d0 := hst1.c0; have d1 := hst1.c1; have d2 := hst1.c2; have e0 := hst1.fr 0; have e1 := hst1.fr 1; have e2 := hst1.fr 2)
      all_goals go_wp2
      all_goals
        rw [List.length_append] at hown1
        have R := round_rel hst1 hown1 (((hB.trans (below_dr _ _ _)).alloc (by have := hst.lt; show base ≤ wr.heap.size; omega) _).trans hB1) hbs (lo' * 256 % 4294967296) (hi' * 256 % 4294967296 + 255)
        go_roundg (gk - 1)
        case measure => have := HNX.out.1; omega
        case rel => exact ⟨_, _, _, ds ++ [hi' / 16777216], by have := HNX.out.1; simp; omega, R.1, by rw [← List.append_assoc]; exact R.2.1, HNX.out.2, R.2.2⟩
    · have htop := top_no lo' hi' i30 i31 i40 i41 ht
      have HI : Hid (Inv lo H ds lo' hi' ∧ ¬ lo' / 16777216 = hi' / 16777216) := ⟨hinv, ht⟩
      clear hinv ht
      go_wp2
      go_quiet (fail)
      go_wp2
      go_end0
      exact ⟨rfl, lo', hi', v', ds, hst, hown, HI.out.1, HI.out.2, hB.trans (below_dr _ _ _)⟩

end Go.Proofs.Qxb6606424a
