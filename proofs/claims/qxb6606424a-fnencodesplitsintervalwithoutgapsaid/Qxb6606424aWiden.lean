/-
  THE WALK OF widened (10).
-/
import Derived.Test.Qxb6606424aBytes
namespace Go.Proofs.Qxb6606424a
open Go.ChangeShapes Go.WideShapes Go.ChangeAt Go.RowKit
open Coder
set_option linter.unusedVariables false

theorem wraps_u64 (n : Int) (h₀ : 0 ≤ n) (h₁ : n < 2 ^ 64) : IntKind.u64.wrap n = n := by rw [IntKind.wrap_u64]; omega
theorem u64_or8 (x y : Int) (h0 : 0 ≤ x) (h : x % 256 = 0) (h1 : x < 18446744073709551616) (g0 : 0 ≤ y) (g1 : y < 256) : bits .or .u64 x y = x + y :=
  bits_join .u64 64 (by decide) wraps_u64 8 x y h0 h h1 g0 g1 (by omega)
theorem u64_or32 (x y : Int) (h0 : 0 ≤ x) (h : x % 4294967296 = 0) (h1 : x < 18446744073709551616) (g0 : 0 ≤ y) (g1 : y < 4294967296) : bits .or .u64 x y = x + y :=
  bits_join .u64 64 (by decide) wraps_u64 32 x y h0 h h1 g0 g1 (by omega)
theorem u64_or24 (x y : Int) (h0 : 0 ≤ x) (h : x % 16777216 = 0) (h1 : x < 18446744073709551616) (g0 : 0 ≤ y) (g1 : y < 16777216) : bits .or .u64 x y = x + y :=
  bits_join .u64 64 (by decide) wraps_u64 24 x y h0 h h1 g0 g1 (by omega)
theorem u64_or16 (x y : Int) (h0 : 0 ≤ x) (h : x % 65536 = 0) (h1 : x < 18446744073709551616) (g0 : 0 ≤ y) (g1 : y < 65536) : bits .or .u64 x y = x + y :=
  bits_join .u64 64 (by decide) wraps_u64 16 x y h0 h h1 g0 g1 (by omega)
theorem u64_or0 (x : Int) (h0 : 0 ≤ x) (h1 : x < 18446744073709551616) : bits .or .u64 x 0 = x := by
  have := bits_join .u64 64 (by decide) wraps_u64 0 x 0 h0 (by omega) h1 (by decide) (by decide) (by decide)
  simpa using this

theorem ret_wid {k : IntKind} {a b : Int} {p : Bool} (h : a = b) : Ending.returned (.tuple #[.int k a, .bool p]) = .returned (.tuple #[.int k b, .bool p]) := by rw [h]

theorem take_val (ds : List Int) (j : Nat) (h : j < ds.length) : val (ds.take (j + 1)) = val (ds.take j) * 256 + ds.getD j 0 := by
  rw [List.take_succ_eq_append_getElem h, val_snoc, List.getD_eq_getElem?_getD, List.getElem?_eq_getElem h]; rfl
theorem take_range (ds : List Int) (hd : ∀ d ∈ ds, 0 ≤ d ∧ d ≤ 255) (j : Nat) (hj : j < ds.length) (hl : ds.length ≤ 4) : 0 ≤ val (ds.take j) ∧ val (ds.take j) < 16777216 := by
  have h := val_range (ds.take j) (fun d h => hd d (List.mem_of_mem_take h))
  have e : (ds.take j).length = j := by simp; omega
  rw [e] at h
  refine ⟨h.1, ?_⟩
  have h2 := h.2
  rcases (show j = 0 ∨ j = 1 ∨ j = 2 ∨ j = 3 from by omega) with e | e | e | e <;> subst e <;> simp only [Int.reducePow] at h2 <;> omega
theorem getD_tail (bs ds : List Int) (n0 j : Nat) (h : bs.length = n0) : (bs ++ ds).getD (n0 + j) 0 = ds.getD j 0 := by
  subst h
  rw [List.getD_eq_getElem?_getD, List.getD_eq_getElem?_getD, List.getElem?_append_right (by omega)]
  congr 2
  omega

theorem wid_false (ds : List Int) (x : Int) (k : Nat) (hk : ds.length = k) : (val ds * 4294967296 + x) * 256 ^ (4 - k) = wid ds x false := by
  subst hk; simp [wid]
theorem wid_true (ds : List Int) (x : Int) (k : Nat) (hk : ds.length = k) : (val ds * 4294967296 + x) * 256 ^ (4 - k) + (256 ^ (4 - k) - 1) = wid ds x true := by
  subst hk; simp [wid]

theorem end_false_0 (ds : List Int) (x V : Int) (hV : V = val ds) (hk : ds.length = 0) : (V * 4294967296 + x) * 4294967296 = wid ds x false := by
  rw [← wid_false ds x 0 hk, hV]; simp
theorem end_true_0 (ds : List Int) (x V : Int) (hV : V = val ds) (hk : ds.length = 0) : (V * 4294967296 + x) * 4294967296 + 4294967295 = wid ds x true := by
  rw [← wid_true ds x 0 hk, hV]; simp
set_option maxHeartbeats 1000000 in
theorem widened_0 (a : Option Addr) (n c n0 : Nat) (bs ds : List Int) (x : Int) (fill : Bool) (w : World) (hrow : RowB w a n (bs ++ ds)) (hn0 : bs.length = n0) (hn : n ≤ 1048576) (hk : ds.length = 0) (x0 : 0 ≤ x) (x1 : x < 4294967296) :
    Calls Try.prog 10 #[.slice a n c, .int .i64 n0, .int .u32 x, .bool fill] w fun e w' => e = .returned (.tuple #[.int .u64 (wid ds x fill), .bool true]) ∧ w' = w := by
  have hlen := hrow.1
  have hd : ∀ d ∈ ds, 0 ≤ d ∧ d ≤ 255 := fun d h => hrow.2.1 d (by simp [h])
  have hdiff : (n : Int) - (n0 : Int) = 0 := by simp at hlen; omega
  have hnn : n = n0 + ds.length := by simp at hlen; omega
  have HD : Hid (∀ d ∈ ds, 0 ≤ d ∧ d ≤ 255) := hd
  have HN : Hid (n = n0 + ds.length) := hnn
  have HN0 : Hid (bs.length = n0) := hn0
  have HK : Hid (ds.length = 0) := hk
  have hn0' : n0 ≤ 1048576 := by omega
  have hv := val_range ds hd
  rw [hk] at hv
  obtain ⟨V, hV⟩ : ∃ V, V = val ds := ⟨_, rfl⟩
  rw [← hV] at hv
  simp only [Int.reducePow] at hv
  obtain ⟨hv0, hv1⟩ := hv
  have HV : Hid (V = val ds) := hV
  have hor := u64_or32 (V * 4294967296) x (by omega) (by omega) (by omega) x0 x1
  have hor3 := u64_or32 ((V * 4294967296 + x) * 4294967296) 4294967295 (by omega) (by omega) (by omega) (by omega) (by omega)
  clear hlen hd hnn hn0 hk hV
  cases fill
  all_goals
    go_enter Try.func10, Try.ntmps10
    go_wp2
    go_loop [11, 12] (fun t i => ∃ j : Nat, j ≤ ds.length ∧ i = .int .i64 ((n0 + j : Nat) : Int) ∧ t = .int .u64 (val (ds.take j))) (fun _ i => n - (intOf i).toNat)
    case atStart => exact ⟨0, Nat.zero_le _, rfl, rfl⟩
    case round =>
      obtain ⟨j, hj, rfl, rfl⟩ := hrel
      by_cases hlt : j < ds.length
      · exfalso; have := HK.out; omega
      · have hij : ¬ (((n0 + j : Nat) : Int) < (n : Int)) := by have := HN.out; omega
        rw [show val (ds.take j) = V from by rw [HV.out, List.take_of_length_le (by omega)]]
        go_wp2
        go_ret2
        first | exact ⟨ret_wid (end_false_0 ds x V HV.out HK.out), rfl⟩ | exact ⟨ret_wid (end_true_0 ds x V HV.out HK.out), rfl⟩

theorem end_false_1 (ds : List Int) (x V : Int) (hV : V = val ds) (hk : ds.length = 1) : (V * 4294967296 + x) * 16777216 = wid ds x false := by
  rw [← wid_false ds x 1 hk, hV]; simp
theorem end_true_1 (ds : List Int) (x V : Int) (hV : V = val ds) (hk : ds.length = 1) : (V * 4294967296 + x) * 16777216 + 16777215 = wid ds x true := by
  rw [← wid_true ds x 1 hk, hV]; simp
set_option maxHeartbeats 1000000 in
theorem widened_1 (a : Option Addr) (n c n0 : Nat) (bs ds : List Int) (x : Int) (fill : Bool) (w : World) (hrow : RowB w a n (bs ++ ds)) (hn0 : bs.length = n0) (hn : n ≤ 1048576) (hk : ds.length = 1) (x0 : 0 ≤ x) (x1 : x < 4294967296) :
    Calls Try.prog 10 #[.slice a n c, .int .i64 n0, .int .u32 x, .bool fill] w fun e w' => e = .returned (.tuple #[.int .u64 (wid ds x fill), .bool true]) ∧ w' = w := by
  have hlen := hrow.1
  have hd : ∀ d ∈ ds, 0 ≤ d ∧ d ≤ 255 := fun d h => hrow.2.1 d (by simp [h])
  have hdiff : (n : Int) - (n0 : Int) = 1 := by simp at hlen; omega
  have hnn : n = n0 + ds.length := by simp at hlen; omega
  have HD : Hid (∀ d ∈ ds, 0 ≤ d ∧ d ≤ 255) := hd
  have HN : Hid (n = n0 + ds.length) := hnn
  have HN0 : Hid (bs.length = n0) := hn0
  have HK : Hid (ds.length = 1) := hk
  have hn0' : n0 ≤ 1048576 := by omega
  have hv := val_range ds hd
  rw [hk] at hv
  obtain ⟨V, hV⟩ : ∃ V, V = val ds := ⟨_, rfl⟩
  rw [← hV] at hv
  simp only [Int.reducePow] at hv
  obtain ⟨hv0, hv1⟩ := hv
  have HV : Hid (V = val ds) := hV
  have hor := u64_or32 (V * 4294967296) x (by omega) (by omega) (by omega) x0 x1
  have hor3 := u64_or24 ((V * 4294967296 + x) * 16777216) 16777215 (by omega) (by omega) (by omega) (by omega) (by omega)
  clear hlen hd hnn hn0 hk hV
  cases fill
  all_goals
    go_enter Try.func10, Try.ntmps10
    go_wp2
    go_loop [11, 12] (fun t i => ∃ j : Nat, j ≤ ds.length ∧ i = .int .i64 ((n0 + j : Nat) : Int) ∧ t = .int .u64 (val (ds.take j))) (fun _ i => n - (intOf i).toNat)
    case atStart => exact ⟨0, Nat.zero_le _, rfl, rfl⟩
    case round =>
      obtain ⟨j, hj, rfl, rfl⟩ := hrel
      by_cases hlt : j < ds.length
      · have hij : ((n0 + j : Nat) : Int) < (n : Int) := by have := HN.out; omega
        obtain ⟨b, off, y, rfl, hc, HY, y0, y1⟩ := hrow.at (n0 + j) (by have := HN.out; omega)
        obtain ⟨t0, t1⟩ := take_range ds HD.out j hlt (by rw [HK.out]; omega)
        have HT : Hid (val (ds.take (j + 1)) = val (ds.take j) * 256 + y) := by
          show val _ = _
          rw [take_val ds j hlt, HY.out, getD_tail bs ds n0 j HN0.out]
        obtain ⟨T, hT⟩ : ∃ T, T = val (ds.take j) := ⟨_, rfl⟩
        rw [← hT] at t0 t1 HT ⊢
        clear hT
        have hor2 := u64_or8 (T * 256) y (by omega) (by omega) (by omega) y0 (by omega)
        go_wp2
        go_round
        case rel => exact ⟨j + 1, by omega, by go_num, by rw [HT.out]⟩
        case measure => simp [intOf]; omega
      · have hij : ¬ (((n0 + j : Nat) : Int) < (n : Int)) := by have := HN.out; omega
        rw [show val (ds.take j) = V from by rw [HV.out, List.take_of_length_le (by omega)]]
        go_wp2
        go_ret2
        first | exact ⟨ret_wid (end_false_1 ds x V HV.out HK.out), rfl⟩ | exact ⟨ret_wid (end_true_1 ds x V HV.out HK.out), rfl⟩

theorem end_false_2 (ds : List Int) (x V : Int) (hV : V = val ds) (hk : ds.length = 2) : (V * 4294967296 + x) * 65536 = wid ds x false := by
  rw [← wid_false ds x 2 hk, hV]; simp
theorem end_true_2 (ds : List Int) (x V : Int) (hV : V = val ds) (hk : ds.length = 2) : (V * 4294967296 + x) * 65536 + 65535 = wid ds x true := by
  rw [← wid_true ds x 2 hk, hV]; simp
set_option maxHeartbeats 1000000 in
theorem widened_2 (a : Option Addr) (n c n0 : Nat) (bs ds : List Int) (x : Int) (fill : Bool) (w : World) (hrow : RowB w a n (bs ++ ds)) (hn0 : bs.length = n0) (hn : n ≤ 1048576) (hk : ds.length = 2) (x0 : 0 ≤ x) (x1 : x < 4294967296) :
    Calls Try.prog 10 #[.slice a n c, .int .i64 n0, .int .u32 x, .bool fill] w fun e w' => e = .returned (.tuple #[.int .u64 (wid ds x fill), .bool true]) ∧ w' = w := by
  have hlen := hrow.1
  have hd : ∀ d ∈ ds, 0 ≤ d ∧ d ≤ 255 := fun d h => hrow.2.1 d (by simp [h])
  have hdiff : (n : Int) - (n0 : Int) = 2 := by simp at hlen; omega
  have hnn : n = n0 + ds.length := by simp at hlen; omega
  have HD : Hid (∀ d ∈ ds, 0 ≤ d ∧ d ≤ 255) := hd
  have HN : Hid (n = n0 + ds.length) := hnn
  have HN0 : Hid (bs.length = n0) := hn0
  have HK : Hid (ds.length = 2) := hk
  have hn0' : n0 ≤ 1048576 := by omega
  have hv := val_range ds hd
  rw [hk] at hv
  obtain ⟨V, hV⟩ : ∃ V, V = val ds := ⟨_, rfl⟩
  rw [← hV] at hv
  simp only [Int.reducePow] at hv
  obtain ⟨hv0, hv1⟩ := hv
  have HV : Hid (V = val ds) := hV
  have hor := u64_or32 (V * 4294967296) x (by omega) (by omega) (by omega) x0 x1
  have hor3 := u64_or16 ((V * 4294967296 + x) * 65536) 65535 (by omega) (by omega) (by omega) (by omega) (by omega)
  clear hlen hd hnn hn0 hk hV
  cases fill
  all_goals
    go_enter Try.func10, Try.ntmps10
    go_wp2
    go_loop [11, 12] (fun t i => ∃ j : Nat, j ≤ ds.length ∧ i = .int .i64 ((n0 + j : Nat) : Int) ∧ t = .int .u64 (val (ds.take j))) (fun _ i => n - (intOf i).toNat)
    case atStart => exact ⟨0, Nat.zero_le _, rfl, rfl⟩
    case round =>
      obtain ⟨j, hj, rfl, rfl⟩ := hrel
      by_cases hlt : j < ds.length
      · have hij : ((n0 + j : Nat) : Int) < (n : Int) := by have := HN.out; omega
        obtain ⟨b, off, y, rfl, hc, HY, y0, y1⟩ := hrow.at (n0 + j) (by have := HN.out; omega)
        obtain ⟨t0, t1⟩ := take_range ds HD.out j hlt (by rw [HK.out]; omega)
        have HT : Hid (val (ds.take (j + 1)) = val (ds.take j) * 256 + y) := by
          show val _ = _
          rw [take_val ds j hlt, HY.out, getD_tail bs ds n0 j HN0.out]
        obtain ⟨T, hT⟩ : ∃ T, T = val (ds.take j) := ⟨_, rfl⟩
        rw [← hT] at t0 t1 HT ⊢
        clear hT
        have hor2 := u64_or8 (T * 256) y (by omega) (by omega) (by omega) y0 (by omega)
        go_wp2
        go_round
        case rel => exact ⟨j + 1, by omega, by go_num, by rw [HT.out]⟩
        case measure => simp [intOf]; omega
      · have hij : ¬ (((n0 + j : Nat) : Int) < (n : Int)) := by have := HN.out; omega
        rw [show val (ds.take j) = V from by rw [HV.out, List.take_of_length_le (by omega)]]
        go_wp2
        go_ret2
        first | exact ⟨ret_wid (end_false_2 ds x V HV.out HK.out), rfl⟩ | exact ⟨ret_wid (end_true_2 ds x V HV.out HK.out), rfl⟩

theorem end_false_3 (ds : List Int) (x V : Int) (hV : V = val ds) (hk : ds.length = 3) : (V * 4294967296 + x) * 256 = wid ds x false := by
  rw [← wid_false ds x 3 hk, hV]; simp
theorem end_true_3 (ds : List Int) (x V : Int) (hV : V = val ds) (hk : ds.length = 3) : (V * 4294967296 + x) * 256 + 255 = wid ds x true := by
  rw [← wid_true ds x 3 hk, hV]; simp
set_option maxHeartbeats 1000000 in
theorem widened_3 (a : Option Addr) (n c n0 : Nat) (bs ds : List Int) (x : Int) (fill : Bool) (w : World) (hrow : RowB w a n (bs ++ ds)) (hn0 : bs.length = n0) (hn : n ≤ 1048576) (hk : ds.length = 3) (x0 : 0 ≤ x) (x1 : x < 4294967296) :
    Calls Try.prog 10 #[.slice a n c, .int .i64 n0, .int .u32 x, .bool fill] w fun e w' => e = .returned (.tuple #[.int .u64 (wid ds x fill), .bool true]) ∧ w' = w := by
  have hlen := hrow.1
  have hd : ∀ d ∈ ds, 0 ≤ d ∧ d ≤ 255 := fun d h => hrow.2.1 d (by simp [h])
  have hdiff : (n : Int) - (n0 : Int) = 3 := by simp at hlen; omega
  have hnn : n = n0 + ds.length := by simp at hlen; omega
  have HD : Hid (∀ d ∈ ds, 0 ≤ d ∧ d ≤ 255) := hd
  have HN : Hid (n = n0 + ds.length) := hnn
  have HN0 : Hid (bs.length = n0) := hn0
  have HK : Hid (ds.length = 3) := hk
  have hn0' : n0 ≤ 1048576 := by omega
  have hv := val_range ds hd
  rw [hk] at hv
  obtain ⟨V, hV⟩ : ∃ V, V = val ds := ⟨_, rfl⟩
  rw [← hV] at hv
  simp only [Int.reducePow] at hv
  obtain ⟨hv0, hv1⟩ := hv
  have HV : Hid (V = val ds) := hV
  have hor := u64_or32 (V * 4294967296) x (by omega) (by omega) (by omega) x0 x1
  have hor3 := u64_or8 ((V * 4294967296 + x) * 256) 255 (by omega) (by omega) (by omega) (by omega) (by omega)
  clear hlen hd hnn hn0 hk hV
  cases fill
  all_goals
    go_enter Try.func10, Try.ntmps10
    go_wp2
    go_loop [11, 12] (fun t i => ∃ j : Nat, j ≤ ds.length ∧ i = .int .i64 ((n0 + j : Nat) : Int) ∧ t = .int .u64 (val (ds.take j))) (fun _ i => n - (intOf i).toNat)
    case atStart => exact ⟨0, Nat.zero_le _, rfl, rfl⟩
    case round =>
      obtain ⟨j, hj, rfl, rfl⟩ := hrel
      by_cases hlt : j < ds.length
      · have hij : ((n0 + j : Nat) : Int) < (n : Int) := by have := HN.out; omega
        obtain ⟨b, off, y, rfl, hc, HY, y0, y1⟩ := hrow.at (n0 + j) (by have := HN.out; omega)
        obtain ⟨t0, t1⟩ := take_range ds HD.out j hlt (by rw [HK.out]; omega)
        have HT : Hid (val (ds.take (j + 1)) = val (ds.take j) * 256 + y) := by
          show val _ = _
          rw [take_val ds j hlt, HY.out, getD_tail bs ds n0 j HN0.out]
        obtain ⟨T, hT⟩ : ∃ T, T = val (ds.take j) := ⟨_, rfl⟩
        rw [← hT] at t0 t1 HT ⊢
        clear hT
        have hor2 := u64_or8 (T * 256) y (by omega) (by omega) (by omega) y0 (by omega)
        go_wp2
        go_round
        case rel => exact ⟨j + 1, by omega, by go_num, by rw [HT.out]⟩
        case measure => simp [intOf]; omega
      · have hij : ¬ (((n0 + j : Nat) : Int) < (n : Int)) := by have := HN.out; omega
        rw [show val (ds.take j) = V from by rw [HV.out, List.take_of_length_le (by omega)]]
        go_wp2
        go_ret2
        first | exact ⟨ret_wid (end_false_3 ds x V HV.out HK.out), rfl⟩ | exact ⟨ret_wid (end_true_3 ds x V HV.out HK.out), rfl⟩

theorem end_false_4 (ds : List Int) (x V : Int) (hV : V = val ds) (hk : ds.length = 4) : (V * 4294967296 + x) = wid ds x false := by
  rw [← wid_false ds x 4 hk, hV]; simp
theorem end_true_4 (ds : List Int) (x V : Int) (hV : V = val ds) (hk : ds.length = 4) : (V * 4294967296 + x) = wid ds x true := by
  rw [← wid_true ds x 4 hk, hV]; simp
set_option maxHeartbeats 1000000 in
theorem widened_4 (a : Option Addr) (n c n0 : Nat) (bs ds : List Int) (x : Int) (fill : Bool) (w : World) (hrow : RowB w a n (bs ++ ds)) (hn0 : bs.length = n0) (hn : n ≤ 1048576) (hk : ds.length = 4) (x0 : 0 ≤ x) (x1 : x < 4294967296) :
    Calls Try.prog 10 #[.slice a n c, .int .i64 n0, .int .u32 x, .bool fill] w fun e w' => e = .returned (.tuple #[.int .u64 (wid ds x fill), .bool true]) ∧ w' = w := by
  have hlen := hrow.1
  have hd : ∀ d ∈ ds, 0 ≤ d ∧ d ≤ 255 := fun d h => hrow.2.1 d (by simp [h])
  have hdiff : (n : Int) - (n0 : Int) = 4 := by simp at hlen; omega
  have hnn : n = n0 + ds.length := by simp at hlen; omega
  have HD : Hid (∀ d ∈ ds, 0 ≤ d ∧ d ≤ 255) := hd
  have HN : Hid (n = n0 + ds.length) := hnn
  have HN0 : Hid (bs.length = n0) := hn0
  have HK : Hid (ds.length = 4) := hk
  have hn0' : n0 ≤ 1048576 := by omega
  have hv := val_range ds hd
  rw [hk] at hv
  obtain ⟨V, hV⟩ : ∃ V, V = val ds := ⟨_, rfl⟩
  rw [← hV] at hv
  simp only [Int.reducePow] at hv
  obtain ⟨hv0, hv1⟩ := hv
  have HV : Hid (V = val ds) := hV
  have hor := u64_or32 (V * 4294967296) x (by omega) (by omega) (by omega) x0 x1
  have hor3 := u64_or0 (V * 4294967296 + x) (by omega) (by omega)
  clear hlen hd hnn hn0 hk hV
  cases fill
  all_goals
    go_enter Try.func10, Try.ntmps10
    go_wp2
    go_loop [11, 12] (fun t i => ∃ j : Nat, j ≤ ds.length ∧ i = .int .i64 ((n0 + j : Nat) : Int) ∧ t = .int .u64 (val (ds.take j))) (fun _ i => n - (intOf i).toNat)
    case atStart => exact ⟨0, Nat.zero_le _, rfl, rfl⟩
    case round =>
      obtain ⟨j, hj, rfl, rfl⟩ := hrel
      by_cases hlt : j < ds.length
      · have hij : ((n0 + j : Nat) : Int) < (n : Int) := by have := HN.out; omega
        obtain ⟨b, off, y, rfl, hc, HY, y0, y1⟩ := hrow.at (n0 + j) (by have := HN.out; omega)
        obtain ⟨t0, t1⟩ := take_range ds HD.out j hlt (by rw [HK.out]; omega)
        have HT : Hid (val (ds.take (j + 1)) = val (ds.take j) * 256 + y) := by
          show val _ = _
          rw [take_val ds j hlt, HY.out, getD_tail bs ds n0 j HN0.out]
        obtain ⟨T, hT⟩ : ∃ T, T = val (ds.take j) := ⟨_, rfl⟩
        rw [← hT] at t0 t1 HT ⊢
        clear hT
        have hor2 := u64_or8 (T * 256) y (by omega) (by omega) (by omega) y0 (by omega)
        go_wp2
        go_round
        case rel => exact ⟨j + 1, by omega, by go_num, by rw [HT.out]⟩
        case measure => simp [intOf]; omega
      · have hij : ¬ (((n0 + j : Nat) : Int) < (n : Int)) := by have := HN.out; omega
        rw [show val (ds.take j) = V from by rw [HV.out, List.take_of_length_le (by omega)]]
        go_wp2
        go_ret2
        first | exact ⟨ret_wid (end_false_4 ds x V HV.out HK.out), rfl⟩ | exact ⟨ret_wid (end_true_4 ds x V HV.out HK.out), rfl⟩

/-- widened -/
theorem widened_any (a : Option Addr) (n c n0 : Nat) (bs ds : List Int) (x : Int) (fill : Bool) (w : World) (hrow : RowB w a n (bs ++ ds)) (hn0 : bs.length = n0) (hn : n ≤ 1048576) (hk : ds.length ≤ 4) (x0 : 0 ≤ x) (x1 : x < 4294967296) :
    Calls Try.prog 10 #[.slice a n c, .int .i64 n0, .int .u32 x, .bool fill] w fun e w' => e = .returned (.tuple #[.int .u64 (wid ds x fill), .bool true]) ∧ w' = w := by
  rcases (show ds.length = 0 ∨ ds.length = 1 ∨ ds.length = 2 ∨ ds.length = 3 ∨ ds.length = 4 from by omega) with h | h | h | h | h
  · exact widened_0 a n c n0 bs ds x fill w hrow hn0 hn h x0 x1
  · exact widened_1 a n c n0 bs ds x fill w hrow hn0 hn h x0 x1
  · exact widened_2 a n c n0 bs ds x fill w hrow hn0 hn h x0 x1
  · exact widened_3 a n c n0 bs ds x fill w hrow hn0 hn h x0 x1
  · exact widened_4 a n c n0 bs ds x fill w hrow hn0 hn h x0 x1
end Go.Proofs.Qxb6606424a
