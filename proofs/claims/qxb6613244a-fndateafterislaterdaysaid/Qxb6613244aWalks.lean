/-
  THE WALKS of the date law's callees: zzDaysIn (8), zzValid (4), zzDayNo (6), dateOf (9), ZZdateOf (5), After (7).
-/
import Derived.Test.Qxb6613244aRows
import Derived.Test.Qxb6613244aCal
import Derived.WalkKit
import Derived.WalkSpells
import Derived.WalkLawsBesides
namespace Go.Proofs.Qxb6613244a
open Go.RowKit

theorem ret_int {k : IntKind} {a b : Int} (h : a = b) : Ending.returned (.int k a) = .returned (.int k b) := by rw [h]

set_option maxHeartbeats 800000 in
theorem daysIn_any (y m : Int) (w : World) (h1 : 1 ≤ y) (h2 : y ≤ 9999) :
    Calls Try.prog 8 #[.int .i64 y, .int .i64 m] w fun e w' => e = .returned (.int .i64 (Cal.dim y m)) ∧ w = w' := by
  rcases (show m = 2 ∨ m = 4 ∨ m = 6 ∨ m = 9 ∨ m = 11 ∨ (m ≠ 2 ∧ m ≠ 4 ∧ m ≠ 6 ∧ m ≠ 9 ∧ m ≠ 11) by omega) with rfl | rfl | rfl | rfl | rfl | ⟨n2, n4, n6, n9, n11⟩
  · by_cases q4 : y % 4 = 0
    · by_cases q100 : y % 100 = 0
      · by_cases q400 : y % 400 = 0
        · have HF : Hid (Cal.dim y 2 = 29) := by simp [Hid, Cal.dim, Cal.leap, q4, q400]
          have b4 : (y % 4 == 0) = true := by simpa using q4
          have b100 : (y % 100 != 0) = false := by simpa using q100
          have b400 : (y % 400 == 0) = true := by simpa using q400
          clear q4 q100 q400
          go_enter Try.func8, Try.ntmps8
          go_wp2
          go_ret
          exact ⟨ret_int HF.out.symm, rfl⟩
        · have HF : Hid (Cal.dim y 2 = 28) := by simp [Hid, Cal.dim, Cal.leap, q100, q400]
          have b4 : (y % 4 == 0) = true := by simpa using q4
          have b100 : (y % 100 != 0) = false := by simpa using q100
          have b400 : (y % 400 == 0) = false := by simpa using q400
          clear q4 q100 q400
          go_enter Try.func8, Try.ntmps8
          go_wp2
          go_ret
          exact ⟨ret_int HF.out.symm, rfl⟩
      · have HF : Hid (Cal.dim y 2 = 29) := by simp [Hid, Cal.dim, Cal.leap, q4, q100]
        have b4 : (y % 4 == 0) = true := by simpa using q4
        have b100 : (y % 100 != 0) = true := by simpa using q100
        clear q4 q100
        go_enter Try.func8, Try.ntmps8
        go_wp2
        go_ret
        exact ⟨ret_int HF.out.symm, rfl⟩
    · have HF : Hid (Cal.dim y 2 = 28) := by simp [Hid, Cal.dim, Cal.leap, q4]
      have b4 : (y % 4 == 0) = false := by simpa using q4
      clear q4
      go_enter Try.func8, Try.ntmps8
      go_wp2
      go_ret
      exact ⟨ret_int HF.out.symm, rfl⟩
  all_goals try
    (go_enter Try.func8, Try.ntmps8
     go_wp2
     go_ret
     exact ⟨rfl, rfl⟩)
  have HF : Hid (Cal.dim y m = 31) := by simp [Hid, Cal.dim, n2, n4, n6, n9, n11]
  have b2 : (m == 2) = false := by simpa using n2
  have b4 : (m == 4) = false := by simpa using n4
  have b6 : (m == 6) = false := by simpa using n6
  have b9 : (m == 9) = false := by simpa using n9
  have b11 : (m == 11) = false := by simpa using n11
  clear n2 n4 n6 n9 n11
  go_enter Try.func8, Try.ntmps8
  go_wp2
  go_ret
  exact ⟨ret_int HF.out.symm, rfl⟩

set_option maxHeartbeats 800000 in
theorem valid_yes (y m d : Int) (w : World) (h : Cal.Real y m d) :
    Calls Try.prog 4 #[.int .i64 y, .int .i64 m, .int .i64 d] w fun e w' => e = .returned (.bool true) ∧ w = w' := by
  obtain ⟨h1, h2, h3, h4, h5, h6⟩ := h
  go_enter Try.func4, Try.ntmps4
  go_wp2_with (go_at_call 8; refine (daysIn_any _ _ _ h1 h2).mono ?_; rintro e w' ⟨rfl, rfl⟩)
  go_ret
  exact ⟨rfl, rfl⟩

set_option maxHeartbeats 800000 in
theorem valid_no (y m d : Int) (w : World) (h : ¬ Cal.Real y m d) :
    Calls Try.prog 4 #[.int .i64 y, .int .i64 m, .int .i64 d] w fun e w' => e = .returned (.bool false) ∧ w = w' := by
  have H : Hid (¬ Cal.Real y m d) := h
  clear h
  by_cases h1 : 1 ≤ y
  · by_cases h2 : y ≤ 9999
    · by_cases h3 : 1 ≤ m
      · by_cases h4 : m ≤ 12
        · by_cases h5 : 1 ≤ d
          · by_cases h6 : d ≤ Cal.dim y m
            · exact absurd ⟨h1, h2, h3, h4, h5, h6⟩ H.out
            · have b6 : decide (d ≤ Cal.dim y m) = false := by simpa using h6
              go_enter Try.func4, Try.ntmps4
              go_wp2_with (go_at_call 8; refine (daysIn_any _ _ _ h1 h2).mono ?_; rintro e w' ⟨rfl, rfl⟩)
              go_ret
              exact ⟨rfl, rfl⟩
          · have b5 : decide (1 ≤ d) = false := by simpa using h5
            go_enter Try.func4, Try.ntmps4
            go_wp2
            go_ret
            exact ⟨rfl, rfl⟩
        · have b4 : decide (m ≤ 12) = false := by simpa using h4
          go_enter Try.func4, Try.ntmps4
          go_wp2
          go_ret
          exact ⟨rfl, rfl⟩
      · have b3 : decide (1 ≤ m) = false := by simpa using h3
        go_enter Try.func4, Try.ntmps4
        go_wp2
        go_ret
        exact ⟨rfl, rfl⟩
    · have b2 : decide (y ≤ 9999) = false := by simpa using h2
      go_enter Try.func4, Try.ntmps4
      go_wp2
      go_ret
      exact ⟨rfl, rfl⟩
  · have b1 : decide (1 ≤ y) = false := by simpa using h1
    go_enter Try.func4, Try.ntmps4
    go_wp2
    go_ret
    exact ⟨rfl, rfl⟩

set_option maxHeartbeats 800000 in
theorem dayNo_any (y m d : Int) (w : World) (h : Cal.Real y m d) :
    Calls Try.prog 6 #[.int .i64 y, .int .i64 m, .int .i64 d] w fun e w' => e = .returned (.int .i64 (Cal.dayNo y m d)) ∧ w = w' := by
  have hdb := Cal.dim_bd y m
  have H : Hid (Cal.Real y m d) := h
  obtain ⟨h1, h2, h3, h4, h5, h6⟩ := h
  have hd : d ≤ 31 := by omega
  clear h6 hdb
  go_enter Try.func6, Try.ntmps6
  go_wp2
  go_loop [8, 9] (fun n i => ∃ k : Nat, (k : Int) + 1 ≤ m ∧ i = .int .i64 ((k : Int) + 1) ∧ n = .int .i64 (Cal.base y + Cal.cum y k)) (fun _ i => (m - intOf i).toNat)
  case atStart => exact ⟨0, by omega, rfl, by simp [Cal.base, Cal.cum]⟩
  case round =>
    obtain ⟨k, hk, rfl, rfl⟩ := hrel
    have hb := Cal.base_bd y h1 h2
    have hc := Cal.cum_bd y k
    have hm := Cal.dim_bd y ((k : Int) + 1)
    by_cases hlt : (k : Int) + 1 < m
    · go_wp2_with (go_at_call 8; refine (daysIn_any _ _ _ h1 h2).mono ?_; rintro e w' ⟨rfl, rfl⟩)
      go_round
      case rel => exact ⟨k + 1, by omega, by go_num, by simp only [Cal.cum]; go_num⟩
      case measure => simp [intOf]; omega
    · have HK : Hid (k = (m - 1).toNat) := by show k = (m - 1).toNat; omega
      go_wp2
      go_ret
      exact ⟨ret_int (by unfold Cal.dayNo; rw [← HK.out]), rfl⟩

set_option maxHeartbeats 800000 in
theorem dateOf_any (y m d : Int) (w : World) (h : Cal.Real y m d) :
    Calls Try.prog 9 #[.int .i64 y, .int .i64 m, .int .i64 d] w fun e w' => e = .returned (.agg #[.int .i32 (Cal.ymd y m d)]) ∧ w' = w.alloc (.cells #[.int .i32 (Cal.ymd y m d)] 24) := by
  have hdb := Cal.dim_bd y m
  obtain ⟨h1, h2, h3, h4, h5, h6⟩ := h
  have hd : d ≤ 31 := by omega
  clear h6 hdb
  go_enter Try.func9, Try.ntmps9
  go_wp2
  exact bodyPost_ret (v := .agg #[.int .i32 (Cal.ymd y m d)]) (by simp [results, Try.results9, go_sem, Cal.ymd]) rfl ⟨rfl, rfl⟩

set_option maxHeartbeats 800000 in
theorem zdateOf_any (y m d : Int) (w : World) (h : Cal.Real y m d) :
    Calls Try.prog 5 #[.int .i64 y, .int .i64 m, .int .i64 d] w fun e w' => e = .returned (.agg #[.int .i32 (Cal.ymd y m d)]) ∧ w' = (w.alloc (.cells #[.int .i32 (Cal.ymd y m d)] 24)).alloc (.cells #[.int .i32 (Cal.ymd y m d)] 24) := by
  go_enter Try.func5, Try.ntmps5
  go_wp2_with (go_at_call 9; refine (dateOf_any _ _ _ _ h).mono ?_; rintro e w' ⟨rfl, rfl⟩)
  exact bodyPost_ret (v := .agg #[.int .i32 (Cal.ymd y m d)]) (by simp [results, Try.results5, go_sem]) rfl ⟨rfl, rfl⟩

set_option maxHeartbeats 800000 in
theorem after_any (a b : Int) (w : World) :
    Calls Try.prog 7 #[.agg #[.int .i32 a], .agg #[.int .i32 b]] w fun e w' => e = .returned (.bool (decide (b < a))) ∧ w' = (w.alloc (.cells #[.int .i32 a] 24)).alloc (.cells #[.int .i32 b] 24) := by
  go_enter Try.func7, Try.ntmps7
  go_wp2
  go_ret
  exact ⟨rfl, rfl⟩

theorem after_is (a b : Int) (r : Bool) (w : World) (h : decide (b < a) = r) :
    Calls Try.prog 7 #[.agg #[.int .i32 a], .agg #[.int .i32 b]] w fun e w' => e = .returned (.bool r) ∧ w' = (w.alloc (.cells #[.int .i32 a] 24)).alloc (.cells #[.int .i32 b] 24) := by
  rw [← h]; exact after_any a b w

set_option maxRecDepth 100000 in
set_option maxHeartbeats 1600000 in
theorem law_real (dy dm dd uy um ud : Int) (w : World) (hd : Cal.Real dy dm dd) (hu : Cal.Real uy um ud) :
    Calls Try.prog 3 #[.int .i64 dy, .int .i64 dm, .int .i64 dd, .int .i64 uy, .int .i64 um, .int .i64 ud] w fun e w' => e = .returned (.bool true) ∧ Grown w w' := by
  have c1 : decide (Cal.ymd uy um ud < Cal.ymd dy dm dd) = decide (Cal.dayNo uy um ud < Cal.dayNo dy dm dd) := by
    rw [decide_eq_decide]; exact Cal.alike hd hu
  have c2 : decide (Cal.ymd dy dm dd < Cal.ymd uy um ud) = decide (Cal.dayNo dy dm dd < Cal.dayNo uy um ud) := by
    rw [decide_eq_decide]; exact Cal.alike hu hd
  have c3 : decide ((0 : Int) < Cal.ymd dy dm dd) = true := by simpa using (Cal.ymd_bd hd).1
  have c4 : decide (Cal.ymd dy dm dd < (0 : Int)) = false := by have := (Cal.ymd_bd hd).1; simp; omega
  go_enter Try.func3, Try.ntmps3
  go_wp2_with fail
  refine (valid_yes _ _ _ _ hd).mono ?_
  rintro e w' ⟨rfl, rfl⟩
  go_wp2_with fail
  refine (valid_yes _ _ _ _ hu).mono ?_
  rintro e w' ⟨rfl, rfl⟩
  go_wp2_with fail
  refine (zdateOf_any _ _ _ _ hd).mono ?_
  rintro e w' ⟨rfl, rfl⟩
  go_wp2_with fail
  refine (zdateOf_any _ _ _ _ hu).mono ?_
  rintro e w' ⟨rfl, rfl⟩
  go_wp2_with fail
  refine (dayNo_any _ _ _ _ hd).mono ?_
  rintro e w' ⟨rfl, rfl⟩
  go_wp2_with fail
  refine (dayNo_any _ _ _ _ hu).mono ?_
  rintro e w' ⟨rfl, rfl⟩
  go_wp2_with fail
  refine (after_is _ _ _ _ c1).mono ?_
  rintro e w' ⟨rfl, rfl⟩
  go_wp2_with fail
  refine (after_is _ _ _ _ c2).mono ?_
  rintro e w' ⟨rfl, rfl⟩
  go_wp2_with fail
  refine (after_is _ _ _ _ c3).mono ?_
  rintro e w' ⟨rfl, rfl⟩
  go_wp2_with fail
  refine (after_is _ _ _ _ c4).mono ?_
  rintro e w' ⟨rfl, rfl⟩
  go_wp2
  go_ret
  refine ⟨rfl, ?_⟩
  iterate 15 refine Grown.alloc ?_ _ _
  exact Grown.refl _

theorem law_any (dy dm dd uy um ud : Int) (w : World) :
    Calls Try.prog 3 #[.int .i64 dy, .int .i64 dm, .int .i64 dd, .int .i64 uy, .int .i64 um, .int .i64 ud] w fun e w' => e = .returned (.bool true) ∧ Grown w w' := by
  by_cases hd : Cal.Real dy dm dd
  · by_cases hu : Cal.Real uy um ud
    · exact law_real dy dm dd uy um ud w hd hu
    · go_enter Try.func3, Try.ntmps3
      go_wp2_with fail
      refine (valid_yes _ _ _ _ hd).mono ?_
      rintro e w' ⟨rfl, rfl⟩
      go_wp2_with fail
      refine (valid_no _ _ _ _ hu).mono ?_
      rintro e w' ⟨rfl, rfl⟩
      go_wp2
      go_ret
      exact ⟨rfl, Grown.refl _⟩
  · go_enter Try.func3, Try.ntmps3
    go_wp2_with fail
    refine (valid_no _ _ _ _ hd).mono ?_
    rintro e w' ⟨rfl, rfl⟩
    go_wp2
    go_ret
    exact ⟨rfl, Grown.refl _⟩

end Go.Proofs.Qxb6613244a
