/-
  THE WALK OF zzCanonical (12).
-/
import Derived.Test.Qxb6605459aClone
namespace Go.Proofs.Qxb6605459a
open Go.RowKit
open B64
set_option linter.unusedVariables false

theorem OwnB.shape {w : World} {base : Nat} {v : Value} {bs : List Int} (h : OwnB w base v bs) : (v = .slice none 0 0 ∧ bs = []) ∨ ∃ g cap, v = .slice (some ⟨g, 0, none⟩) bs.length cap := by
  rcases h.2 with ⟨rfl, hn⟩ | ⟨g, cap, cur, rfl, _, _, _, _, _, _⟩
  · exact .inl ⟨rfl, List.length_eq_zero_iff.mp hn⟩
  · exact .inr ⟨g, cap, rfl⟩

theorem OwnB.slice {w : World} {base : Nat} {v : Value} {bs : List Int} (h : OwnB w base v bs) : ∃ a cap, v = .slice a bs.length cap := by
  rcases h.shape with ⟨rfl, rfl⟩ | ⟨g, cap, rfl⟩
  · exact ⟨_, _, rfl⟩
  · exact ⟨_, _, rfl⟩

/-- zzEncode of a row of the caller's own. -/
theorem encode_own {w : World} {base : Nat} {v : Value} {bs : List Int} (h : OwnB w base v bs) (hr : ∀ x ∈ bs, 0 ≤ x ∧ x ≤ 255) (hl : bs.length ≤ 1048576) :
    Calls Try.prog 15 #[v] w fun e w' => ∃ v', e = .returned v' ∧ OwnB w' w.heap.size v' (enc bs) ∧ Below w.heap.size w w' := by
  rcases h.shape with ⟨rfl, rfl⟩ | ⟨g, cap, rfl⟩
  · exact encode_none _ _ _
  · exact encode_any g 0 bs.length cap bs w hl (h.row rfl hr)

theorem OwnB.below {w w' : World} {base B : Nat} {v : Value} {bs : List Int} (h : OwnB w base v bs) (hB : Below w.heap.size w w') : OwnB w' base v bs := by
  refine ⟨h.1, ?_⟩
  rcases h.2 with h' | ⟨g, cap, cur, hv, hb, hg, r⟩
  · exact .inl h'
  · have : g < w.heap.size := (Array.getElem?_eq_some_iff.mp hg).1
    exact .inr ⟨g, cap, cur, hv, hb, by rw [hB.block g this]; exact hg, r⟩

/-! ### one step of the first loop, N bits over -/
theorem u32_and3 (x : Int) (h0 : 0 ≤ x) (h1 : x < 4294967296) : bits .and .u32 x 3 = x % 4 := bits_mask .u32 32 (by decide) wraps_u32 2 (by decide) x h0 h1
theorem u32_and15 (x : Int) (h0 : 0 ≤ x) (h1 : x < 4294967296) : bits .and .u32 x 15 = x % 16 := bits_mask .u32 32 (by decide) wraps_u32 4 (by decide) x h0 h1
theorem u32_and0 (x : Int) (h0 : 0 ≤ x) (h1 : x < 4294967296) : bits .and .u32 x 0 = 0 := by
  have := bits_mask .u32 32 (by decide) wraps_u32 0 (by decide) x h0 h1
  simpa [Int.emod_one] using this

theorem step_0 (o : List Int) (a v : Int) : B64.step (o, a, 0) v = (o, a * 64 + v, 6) := by simp [B64.step]
theorem step_2 (o : List Int) (a v : Int) (h0 : 0 ≤ a * 64 + v) (h1 : a * 64 + v < 256) : B64.step (o, a, 2) v = (o ++ [a * 64 + v], 0, 0) := by
  simp [B64.step]; omega
theorem step_4 (o : List Int) (a v : Int) (h0 : 0 ≤ a * 64 + v) (h1 : a * 64 + v < 1024) : B64.step (o, a, 4) v = (o ++ [(a * 64 + v) / 4], (a * 64 + v) % 4, 2) := by
  simp [B64.step]; omega
theorem step_6 (o : List Int) (a v : Int) (h0 : 0 ≤ a * 64 + v) (h1 : a * 64 + v < 4096) : B64.step (o, a, 6) v = (o ++ [(a * 64 + v) / 16], (a * 64 + v) % 16, 4) := by
  simp [B64.step]; omega

theorem canon_bad (s : ByteArray) (k : Nat) (h : k < s.size) (hc : digOk (s[k].toNat : Int) = false) : canon (bl s) = false := by
  have hm : (s[k].toNat : Int) ∈ bl s := by rw [← bl_get s k h]; exact List.getElem_mem _
  have : (bl s).all digOk = false := by
    rw [List.all_eq_false]; exact ⟨_, hm, by simp [hc]⟩
  simp [canon, this]
theorem canon_ne (l : List Int) (h : enc (dec l).1 ≠ l) : canon l = false := by simp [canon, h]
theorem canon_yes (l : List Int) (ha : l.all digOk = true) (h : enc (dec l).1 = l) : canon l = true := by
  have e : (enc (dec l).1 == l) = true := by simpa using h
  rw [canon, ha, e]; rfl
theorem eq_of_get (E l : List Int) (hl : E.length = l.length) (h : ∀ t, t < l.length → E.getD t 0 = l.getD t 0) : E = l := by
  apply List.ext_getElem hl
  intro t h1 h2
  have := h t h2
  simpa [List.getD_eq_getElem?_getD, h1, h2] using this
theorem bl_getD (s : ByteArray) (k : Nat) (h : k < s.size) : (bl s).getD k 0 = (s[k].toNat : Int) := by
  rw [List.getD_eq_getElem?_getD, List.getElem?_eq_getElem (by rw [bl_len]; exact h), bl_get s k h]; rfl

set_option maxRecDepth 100000 in
set_option maxHeartbeats 2000000 in
theorem canonical_any (s : ByteArray) (hs : s.size ≤ 1048576) (w : World) :
    Calls Try.prog 12 #[.string s] w fun e w' => e = .returned (.bool (canon (bl s))) ∧ Below w.heap.size w w' := by
  obtain ⟨i0, hi, hz0, hz1, hz2⟩ := info_parts Try.info5
  go_enter Try.func12, Try.ntmps12
  go_wp2_with (at_make; refine wpList_make_own _ rfl _ _ 27 rfl w.heap.size 5 i0 (.int .u8 0) 1 Try.underlying27 hi hz0 hz1 _ _ _ s.size rfl rfl (by omega) (by rw [hz2]; omega) (by unfold maxLen; omega) (by omega) ?_; intro w0 hown0 hgrow0)
  have hB0 : Below w.heap.size w w0 := (Below.refl _ _).grown hgrow0 (Nat.le_refl _) (fun k hk => by cases hk)
  clear hgrow0 hi hz0 hz1 hz2
  go_loopw [3, 4, 5, 6] (fun v a nb i wr => ∃ k : Nat, k ≤ s.size ∧ i = .int .i64 k ∧ OwnB wr w.heap.size v (dec ((bl s).take k)).1 ∧ a = .int .u32 (dec ((bl s).take k)).2.1 ∧ nb = .int .i64 (dec ((bl s).take k)).2.2 ∧ ((bl s).take k).all digOk = true ∧ Below w.heap.size w wr) (fun _ _ _ i _ => s.size - (intOf i).toNat)
  case atStart => exact ⟨0, Nat.zero_le _, rfl, hown0, rfl, rfl, rfl, hB0⟩
  case round =>
    obtain ⟨k, hk, rfl, hown, rfl, rfl, hall, hB⟩ := hrel
    have HA : Hid (((bl s).take k).all digOk = true) := hall
    clear hall
    have hsz := hB.size
    by_cases hlt : k < s.size
    · have hr := u8_range s[k]
      obtain ⟨r0, r1⟩ := hr
      cases hd : digOk (s[k].toNat : Int)
      · have HB : Hid (canon (bl s) = false) := canon_bad s k hlt hd
        have HS : Hid (sext (s[k].toNat : Int) = -1) := sext_no _ hd
        go_wp2_with (go_at_call 9; refine (sextet_any _ r0 r1 _).mono ?_; rw [HS.out]; rintro e w' ⟨rfl, rfl⟩)
        go_ret
        exact ⟨ret_bool HB.out.symm, hB⟩
      · have HS : Hid (sext (s[k].toNat : Int) = digV (s[k].toNat : Int)) := sext_ok _ hd
        obtain ⟨v0, v1⟩ := digV_range (s[k].toNat : Int)
        obtain ⟨V, hV⟩ : ∃ V, V = digV (s[k].toNat : Int) := ⟨_, rfl⟩
        rw [← hV] at v0 v1 HS
        have HT : Hid (dec ((bl s).take (k + 1)) = B64.step (dec ((bl s).take k)) V) := by
          show dec _ = _
          rw [bl_take s k hlt, dec_snoc, hV]
        have HA' : Hid (((bl s).take (k + 1)).all digOk = true) := by
          show _ = true
          rw [bl_take s k hlt, List.all_append, HA.out]; simp [hd]
        have hst := stOk_dec ((bl s).take k)
        have hdl := dec_len ((bl s).take k)
        have hdl' : ((bl s).take k).length ≤ k := List.length_take_le _ _
        obtain ⟨D, hD⟩ : ∃ D, D = dec ((bl s).take k) := ⟨_, rfl⟩
        rw [← hD] at hst hdl HT hown ⊢
        clear hD hV hd HA
        obtain ⟨o, A, N⟩ := D
        obtain ⟨hA0, hN, ho⟩ := hst
        dsimp only at hA0 hN ho hdl hown ⊢
        have f0 : o.length + 1 ≤ 140737488355328 := by omega
        rcases hN with ⟨rfl, hA1⟩ | ⟨rfl, hA1⟩ | ⟨rfl, hA1⟩ | ⟨rfl, hA1⟩
        · have hor := u32_or6 (A * 64) V (by omega) (by omega) (by omega) v0 v1
          have HT2 : Hid (dec ((bl s).take (k + 1)) = (o, A * 64 + V, 6)) := by show dec _ = _; rw [HT.out, step_0]
          clear HT
          go_wp2_with (go_at_call 9; refine (sextet_any _ r0 r1 _).mono ?_; rw [HS.out]; rintro e w' ⟨rfl, rfl⟩)
          go_roundw
          case rel => exact ⟨k + 1, by omega, by go_num, by rw [HT2.out]; exact hown, by rw [HT2.out], by rw [HT2.out], HA'.out, hB⟩
          case measure => simp [intOf]; omega
        · have hor := u32_or6 (A * 64) V (by omega) (by omega) (by omega) v0 v1
          have han := u32_and0 (A * 64 + V) (by omega) (by omega)
          have HT2 : Hid (dec ((bl s).take (k + 1)) = (o ++ [A * 64 + V], 0, 0)) := by show dec _ = _; rw [HT.out, step_2 _ _ _ (by omega) (by omega)]
          clear HT
          go_wp2_with (first | (go_at_call 9; refine (sextet_any _ r0 r1 _).mono ?_; rw [HS.out]; rintro e w' ⟨rfl, rfl⟩) | (at_builtin; refine wpList_append_u8 rfl (.tmp 36) (.tmp 42) rfl w.heap.size _ o (A * 64 + V) hown rfl rfl f0 hsz ?_; intro v1 w1 hown1 hB1 hs1))
          go_roundw
          case rel => exact ⟨k + 1, by omega, by go_num, by rw [HT2.out]; exact hown1, by rw [HT2.out], by rw [HT2.out], HA'.out, hB.trans hB1⟩
          case measure => simp [intOf]; omega
        · have hor := u32_or6 (A * 64) V (by omega) (by omega) (by omega) v0 v1
          have han := u32_and3 (A * 64 + V) (by omega) (by omega)
          have HT2 : Hid (dec ((bl s).take (k + 1)) = (o ++ [(A * 64 + V) / 4], (A * 64 + V) % 4, 2)) := by show dec _ = _; rw [HT.out, step_4 _ _ _ (by omega) (by omega)]
          clear HT
          go_wp2_with (first | (go_at_call 9; refine (sextet_any _ r0 r1 _).mono ?_; rw [HS.out]; rintro e w' ⟨rfl, rfl⟩) | (at_builtin; refine wpList_append_u8 rfl (.tmp 36) (.tmp 42) rfl w.heap.size _ o ((A * 64 + V) / 4) hown rfl rfl f0 hsz ?_; intro v1 w1 hown1 hB1 hs1))
          go_roundw
          case rel => exact ⟨k + 1, by omega, by go_num, by rw [HT2.out]; exact hown1, by rw [HT2.out], by rw [HT2.out], HA'.out, hB.trans hB1⟩
          case measure => simp [intOf]; omega
        · have hor := u32_or6 (A * 64) V (by omega) (by omega) (by omega) v0 v1
          have han := u32_and15 (A * 64 + V) (by omega) (by omega)
          have HT2 : Hid (dec ((bl s).take (k + 1)) = (o ++ [(A * 64 + V) / 16], (A * 64 + V) % 16, 4)) := by show dec _ = _; rw [HT.out, step_6 _ _ _ (by omega) (by omega)]
          clear HT
          go_wp2_with (first | (go_at_call 9; refine (sextet_any _ r0 r1 _).mono ?_; rw [HS.out]; rintro e w' ⟨rfl, rfl⟩) | (at_builtin; refine wpList_append_u8 rfl (.tmp 36) (.tmp 42) rfl w.heap.size _ o ((A * 64 + V) / 16) hown rfl rfl f0 hsz ?_; intro v1 w1 hown1 hB1 hs1))
          go_roundw
          case rel => exact ⟨k + 1, by omega, by go_num, by rw [HT2.out]; exact hown1, by rw [HT2.out], by rw [HT2.out], HA'.out, hB.trans hB1⟩
          case measure => simp [intOf]; omega
    · have e : k = s.size := by omega
      subst e
      rw [bl_take_all] at HA hown ⊢
      have hdl := dec_len (bl s)
      rw [bl_len] at hdl
      have hst := (stOk_dec (bl s)).2.2
      have hel := enc_len (dec (bl s)).1
      by_cases hLs : (enc (dec (bl s)).1).length = s.size
      · have HLs : Hid ((enc (dec (bl s)).1).length = s.size) := hLs
        clear hLs
        go_wp2_with (go_at_call 15; refine (encode_own hown hst (by omega)).mono ?_; rintro e w1 ⟨ve, rfl, hown1, hB1⟩; obtain ⟨L, hL⟩ : ∃ L, L = enc (dec (bl s)).1 := ⟨_, rfl⟩; rw [← hL] at hown1 HLs; have HL : Hid (L = enc (dec (bl s)).1) := hL; clear hL; obtain ⟨av, cv, rfl⟩ : ∃ av cv, ve = .slice av s.size cv := by (rw [← HLs.out]; exact hown1.slice))
        have hB2 : Below w.heap.size w w1 := hB.trans (hB1.mono hsz)
        go_loopw [9] (fun i wq => ∃ j : Nat, j ≤ s.size ∧ i = .int .i64 j ∧ (∀ t, t < j → L.getD t 0 = (bl s).getD t 0) ∧ (∃ q, wq = w1.drewN q)) (fun i _ => s.size - (intOf i).toNat)
        case atStart => exact ⟨0, Nat.zero_le _, rfl, fun t ht => absurd ht (Nat.not_lt_zero _), 0, rfl⟩
        case round =>
          obtain ⟨j, hj, rfl, heq, q, rfl⟩ := hrel
          have HQ : Hid (∀ t, t < j → L.getD t 0 = (bl s).getD t 0) := heq
          clear heq
          by_cases hlt2 : j < s.size
          · rcases hown1.shape with ⟨hv, hLn⟩ | ⟨g, cap, hv⟩
            · exfalso; have := HLs.out; rw [hLn] at this; simp at this; omega
            · obtain ⟨rfl, _, rfl⟩ : av = some ⟨g, 0, none⟩ ∧ s.size = L.length ∧ cv = cap := by simpa using hv
              clear hv
              have c0 : w1.cell? ⟨g, j, none⟩ = some (.int .u8 (L.getD j 0)) := hown1.cellAt HLs.out j hlt2
              have bj : (j : Int) < (s.size : Int) := by omega
              have hbg := bl_getD s j hlt2
              obtain ⟨y, hy⟩ : ∃ y, y = L.getD j 0 := ⟨_, rfl⟩
              rw [← hy] at c0
              have HY : Hid (y = L.getD j 0) := hy
              have HG : Hid ((bl s).getD j 0 = (s[j].toNat : Int)) := hbg
              clear hy hbg
              by_cases hc : y = (s[j].toNat : Int)
              · have hc' : (y == (s[j].toNat : Int)) = true := by simpa using hc
                have HC : Hid (y = (s[j].toNat : Int)) := hc
                clear hc
                go_wp2
                go_quiet (fail)
                go_wp2
                go_roundw
                case rel =>
                  refine ⟨j + 1, by omega, by go_num, ?_, _, rfl⟩
                  intro t ht
                  by_cases e : t = j
                  · subst e; rw [← HY.out, HG.out, HC.out]
                  · exact HQ.out t (by omega)
                case measure => simp [intOf]; omega
              · have HN : Hid (canon (bl s) = false) := by
                  refine canon_ne _ ?_
                  intro h
                  rw [← HL.out] at h
                  apply hc
                  rw [HY.out, h, HG.out]
                have hc' : (y == (s[j].toNat : Int)) = false := by simpa using hc
                clear hc
                go_wp2
                go_quiet (fail)
                go_wp2
                go_ret
                exact ⟨ret_bool HN.out.symm, (hB2.trans (below_dr _ _ q)).trans (below_dr _ _ _)⟩
          · have e : j = s.size := by omega
            subst e
            have HN : Hid (canon (bl s) = true) := by
              refine canon_yes _ HA.out ?_
              rw [← HL.out]
              exact eq_of_get L (bl s) (by rw [HLs.out, bl_len]) (by rw [bl_len]; exact HQ.out)
            go_wp2
            go_ret
            exact ⟨ret_bool HN.out.symm, hB2.trans (below_dr _ _ _)⟩
      · have HN : Hid (canon (bl s) = false) := canon_ne _ (fun h => hLs (by rw [h, bl_len]))
        have hLz : ¬ (((enc (dec (bl s)).1).length : Int) = (s.size : Int)) := by intro h; exact hLs (by omega)
        clear hLs
        go_wp2_with (go_at_call 15; refine (encode_own hown hst (by omega)).mono ?_; rintro e w1 ⟨ve, rfl, hown1, hB1⟩; obtain ⟨av, cv, rfl⟩ := hown1.slice)
        go_ret
        exact ⟨ret_bool HN.out.symm, hB.trans (hB1.mono hsz)⟩
end Go.Proofs.Qxb6605459a
