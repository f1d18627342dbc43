/-
  PropDaysSinceEpochCountsEachNextDate and all that it calls: the walks.
-/
import Derived.Test.Qxb6003346aDoorChecked
import Derived.Test.Qxb6003346aDoorDaysPlain
import Derived.WalkKit
import Derived.ProofKit
import Derived.WalkLawsBesides
import Derived.WalkSpells
namespace Go.Proofs.Qxb6003346aDoor.Days
open Go.RowKit

theorem ret_int {k : IntKind} {a b : Int} (h : a = b) : Ending.returned (.int k a) = .returned (.int k b) := by rw [h]
theorem ret_bool {a b : Bool} (h : a = b) : Ending.returned (.bool a) = .returned (.bool b) := by rw [h]

theorem leap_1 {y : Int} (h : ¬ y % 4 = 0) : leap y = false := by simp [leap, h]
theorem leap_2 {y : Int} (h : y % 4 = 0) (g : ¬ y % 100 = 0) : leap y = true := by simp [leap, h, g]
theorem leap_3 {y : Int} (h : y % 4 = 0) (k : y % 400 = 0) : leap y = true := by simp [leap, h, k]
theorem leap_4 {y : Int} (h : y % 4 = 0) (g : y % 100 = 0) (k : ¬ y % 400 = 0) : leap y = false := by simp [leap, h, g, k]

set_option maxHeartbeats 1000000 in
theorem leap26 (y : Int) (w : World) (h0 : 0 ≤ y) (h1 : y ≤ 10000) :
    Calls Tryd.prog 26 #[.int .i64 y] w fun e w' => e = .returned (.bool (leap y)) ∧ w' = w := by
  by_cases a : y % 4 = 0
  · by_cases b : y % 100 = 0
    · by_cases c : y % 400 = 0
      · have H : Hid (leap y = true) := leap_3 a c
        go_enter Tryd.func26, Tryd.ntmps26
        go_wp2
        go_ret
        exact ⟨ret_bool H.out.symm, rfl⟩
      · have H : Hid (leap y = false) := leap_4 a b c
        have c' : (y % 400 == 0) = false := beq_eq_false_iff_ne.2 c
        go_enter Tryd.func26, Tryd.ntmps26
        go_wp2
        go_ret
        exact ⟨ret_bool H.out.symm, rfl⟩
    · have H : Hid (leap y = true) := leap_2 a b
      go_enter Tryd.func26, Tryd.ntmps26
      go_wp2
      go_ret
      exact ⟨ret_bool H.out.symm, rfl⟩
  · have H : Hid (leap y = false) := leap_1 a
    go_enter Tryd.func26, Tryd.ntmps26
    go_wp2
    go_ret
    exact ⟨ret_bool H.out.symm, rfl⟩

set_option maxHeartbeats 1000000 in
theorem leap39 (y : Int) (w : World) (h0 : 0 ≤ y) (h1 : y ≤ 10000) :
    Calls Tryd.prog 39 #[.int .i64 y] w fun e w' => e = .returned (.bool (leap y)) ∧ w' = w := by
  by_cases a : y % 4 = 0
  · by_cases b : y % 100 = 0
    · by_cases c : y % 400 = 0
      · have H : Hid (leap y = true) := leap_3 a c
        go_enter Tryd.func39, Tryd.ntmps39
        go_wp2
        go_ret
        exact ⟨ret_bool H.out.symm, rfl⟩
      · have H : Hid (leap y = false) := leap_4 a b c
        have c' : (y % 400 == 0) = false := beq_eq_false_iff_ne.2 c
        go_enter Tryd.func39, Tryd.ntmps39
        go_wp2
        go_ret
        exact ⟨ret_bool H.out.symm, rfl⟩
    · have H : Hid (leap y = true) := leap_2 a b
      go_enter Tryd.func39, Tryd.ntmps39
      go_wp2
      go_ret
      exact ⟨ret_bool H.out.symm, rfl⟩
  · have H : Hid (leap y = false) := leap_1 a
    go_enter Tryd.func39, Tryd.ntmps39
    go_wp2
    go_ret
    exact ⟨ret_bool H.out.symm, rfl⟩

theorem yr_lo {y m : Int} (h : m < 3) : yr y m = y - 1 + 400 := by simp [yr, h]
theorem yr_hi {y m : Int} (h : ¬ m < 3) : yr y m = y + 400 := by simp [yr, h]

set_option maxHeartbeats 1000000 in
theorem days27 (y m d : Int) (w : World) (h0 : 0 ≤ y) (h1 : y ≤ 10000) (m0 : 1 ≤ m) (m1 : m ≤ 12) (d0 : 1 ≤ d) (d1 : d ≤ 31) :
    Calls Tryd.prog 27 #[.int .i64 y, .int .i64 m, .int .i64 d] w fun e w' => e = .returned (.int .i64 (days y m d)) ∧ w' = w := by
  by_cases hm : m < 3
  · have H : Hid (yr y m = y - 1 + 400) := yr_lo hm
    go_enter Tryd.func27, Tryd.ntmps27
    go_wp2
    go_ret
    exact ⟨ret_int (by unfold days; rw [H.out]; omega), rfl⟩
  · have H : Hid (yr y m = y + 400) := yr_hi hm
    go_enter Tryd.func27, Tryd.ntmps27
    go_wp2
    go_ret
    exact ⟨ret_int (by unfold days; rw [H.out]; omega), rfl⟩

theorem days14 (y m d : Int) (w : World) (h0 : 0 ≤ y) (h1 : y ≤ 10000) (m0 : 1 ≤ m) (m1 : m ≤ 12) (d0 : 1 ≤ d) (d1 : d ≤ 31) :
    Calls Tryd.prog 14 #[.int .i64 y, .int .i64 m, .int .i64 d] w fun e w' => e = .returned (.int .i64 (days y m d)) ∧ w' = w := by
  go_enter Tryd.func14, Tryd.ntmps14
  go_wp2_with fail
  refine (days27 y m d _ h0 h1 m0 m1 d0 d1).mono ?_
  rintro e w' ⟨rfl, rfl⟩
  go_wp2
  go_ret
  exact ⟨rfl, rfl⟩

theorem dim_2t {y : Int} (h : leap y = true) : dim y 2 = 29 := by simp [dim, h]
theorem dim_2f {y : Int} (h : leap y = false) : dim y 2 = 28 := by simp [dim, h]
theorem dim_30 {y m : Int} (h : m = 4 ∨ m = 6 ∨ m = 9 ∨ m = 11) : dim y m = 30 := by
  have : ¬ m = 2 := by omega
  simp [dim, h, this]
theorem dim_31 {y m : Int} (e : ¬ m = 2) (h : ¬ (m = 4 ∨ m = 6 ∨ m = 9 ∨ m = 11)) : dim y m = 31 := by
  simp only [dim, if_neg e, if_neg h]

set_option maxHeartbeats 1000000 in
theorem dim13 (y m : Int) (w : World) (h0 : 0 ≤ y) (h1 : y ≤ 10000) (m0 : 1 ≤ m) (m1 : m ≤ 12) :
    Calls Tryd.prog 13 #[.int .i64 y, .int .i64 m] w fun e w' => e = .returned (.int .i64 (dim y m)) ∧ w' = w := by
  by_cases e2 : m = 2
  · subst e2
    cases hl : leap y
    · have H : Hid (dim y 2 = 28) := dim_2f hl
      go_enter Tryd.func13, Tryd.ntmps13
      go_wp2_with (go_at_call 26; refine (leap26 y _ h0 h1).mono ?_; rintro e w' ⟨rfl, rfl⟩)
      go_ret
      exact ⟨ret_int H.out.symm, rfl⟩
    · have H : Hid (dim y 2 = 29) := dim_2t hl
      go_enter Tryd.func13, Tryd.ntmps13
      go_wp2_with (go_at_call 26; refine (leap26 y _ h0 h1).mono ?_; rintro e w' ⟨rfl, rfl⟩)
      go_ret
      exact ⟨ret_int H.out.symm, rfl⟩
  · have hm : m = 1 ∨ m = 3 ∨ m = 4 ∨ m = 5 ∨ m = 6 ∨ m = 7 ∨ m = 8 ∨ m = 9 ∨ m = 10 ∨ m = 11 ∨ m = 12 := by omega
    clear e2
    rcases hm with rfl | rfl | rfl | rfl | rfl | rfl | rfl | rfl | rfl | rfl | rfl
    all_goals
      go_enter Tryd.func13, Tryd.ntmps13
      go_wp2
      go_ret
      exact ⟨rfl, rfl⟩

/-- The table of the months' days. -/
def tab : List Int := [31, 28, 31, 30, 31, 30, 31, 31, 30, 31, 30, 31]

set_option maxHeartbeats 1000000 in
theorem dim28 (y m : Int) (w : World) (h0 : 0 ≤ y) (h1 : y ≤ 10000) (m0 : 1 ≤ m) (m1 : m ≤ 12) (hT : ∀ i, i < 12 → w.cell? ⟨1, i, none⟩ = some (.int .u8 (tab.getD i 0))) :
    Calls Tryd.prog 28 #[.int .i64 m, .int .i64 y] w fun e w' => e = .returned (.int .i64 (dim y m)) ∧ w' = w := by
  by_cases e2 : m = 2
  · subst e2
    have hc : w.cell? ⟨1, 1, none⟩ = some (.int .u8 28) := hT 1 (by omega)
    clear hT
    cases hl : leap y
    · have H : Hid (dim y 2 = 28) := dim_2f hl
      go_enter Tryd.func28, Tryd.ntmps28
      go_wp2_with (go_at_call 39; refine (leap39 y _ h0 h1).mono ?_; rintro e w' ⟨rfl, rfl⟩)
      go_ret
      exact ⟨ret_int H.out.symm, rfl⟩
    · have H : Hid (dim y 2 = 29) := dim_2t hl
      go_enter Tryd.func28, Tryd.ntmps28
      go_wp2_with (go_at_call 39; refine (leap39 y _ h0 h1).mono ?_; rintro e w' ⟨rfl, rfl⟩)
      go_ret
      exact ⟨ret_int H.out.symm, rfl⟩
  · have hm : m = 1 ∨ m = 3 ∨ m = 4 ∨ m = 5 ∨ m = 6 ∨ m = 7 ∨ m = 8 ∨ m = 9 ∨ m = 10 ∨ m = 11 ∨ m = 12 := by omega
    clear e2
    have c0 : w.cell? ⟨1, 0, none⟩ = some (.int .u8 31) := hT 0 (by omega)
    have c2 : w.cell? ⟨1, 2, none⟩ = some (.int .u8 31) := hT 2 (by omega)
    have c3 : w.cell? ⟨1, 3, none⟩ = some (.int .u8 30) := hT 3 (by omega)
    have c4 : w.cell? ⟨1, 4, none⟩ = some (.int .u8 31) := hT 4 (by omega)
    have c5 : w.cell? ⟨1, 5, none⟩ = some (.int .u8 30) := hT 5 (by omega)
    have c6 : w.cell? ⟨1, 6, none⟩ = some (.int .u8 31) := hT 6 (by omega)
    have c7 : w.cell? ⟨1, 7, none⟩ = some (.int .u8 31) := hT 7 (by omega)
    have c8 : w.cell? ⟨1, 8, none⟩ = some (.int .u8 30) := hT 8 (by omega)
    have c9 : w.cell? ⟨1, 9, none⟩ = some (.int .u8 31) := hT 9 (by omega)
    have c10 : w.cell? ⟨1, 10, none⟩ = some (.int .u8 30) := hT 10 (by omega)
    have c11 : w.cell? ⟨1, 11, none⟩ = some (.int .u8 31) := hT 11 (by omega)
    clear hT
    rcases hm with rfl | rfl | rfl | rfl | rfl | rfl | rfl | rfl | rfl | rfl | rfl
    all_goals
      go_enter Tryd.func28, Tryd.ntmps28
      go_wp2
      go_ret
      exact ⟨rfl, rfl⟩

theorem dim15 (y m : Int) (w : World) (h0 : 0 ≤ y) (h1 : y ≤ 10000) (m0 : 1 ≤ m) (m1 : m ≤ 12) (hT : ∀ i, i < 12 → w.cell? ⟨1, i, none⟩ = some (.int .u8 (tab.getD i 0))) :
    Calls Tryd.prog 15 #[.int .i64 m, .int .i64 y] w fun e w' => e = .returned (.int .i64 (dim y m)) ∧ w' = w := by
  have HT : Hid (∀ i, i < 12 → w.cell? ⟨1, i, none⟩ = some (.int .u8 (tab.getD i 0))) := hT
  clear hT
  go_enter Tryd.func15, Tryd.ntmps15
  go_wp2_with fail
  refine (dim28 y m _ h0 h1 m0 m1 HT.out).mono ?_
  rintro e w' ⟨rfl, rfl⟩
  go_wp2
  go_ret
  exact ⟨rfl, rfl⟩
set_option maxHeartbeats 2000000 in
/-- Outside the calendar's bounds the law answers true at once. -/
theorem law_out (y m d : Int) (w : World) (h : y < 0 ∨ 9999 < y ∨ m < 1 ∨ 12 < m ∨ d < 1) :
    Calls Tryd.prog 4 #[.int .i64 y, .int .i64 m, .int .i64 d] w fun e w' => e = .returned (.bool true) ∧ w' = w := by
  by_cases a : y < 0
  · go_enter Tryd.func4, Tryd.ntmps4
    go_wp2
    go_ret
    exact ⟨rfl, rfl⟩
  by_cases b : 9999 < y
  · go_enter Tryd.func4, Tryd.ntmps4
    go_wp2
    go_ret
    exact ⟨rfl, rfl⟩
  by_cases c : m < 1
  · go_enter Tryd.func4, Tryd.ntmps4
    go_wp2
    go_ret
    exact ⟨rfl, rfl⟩
  by_cases c2 : 12 < m
  · go_enter Tryd.func4, Tryd.ntmps4
    go_wp2
    go_ret
    exact ⟨rfl, rfl⟩
  have c3 : d < 1 := by omega
  clear h
  go_enter Tryd.func4, Tryd.ntmps4
  go_wp2
  go_ret
  exact ⟨rfl, rfl⟩

set_option maxHeartbeats 2000000 in
theorem law_in (y m d : Int) (w : World) (h0 : 0 ≤ y) (h1 : y ≤ 9999) (m0 : 1 ≤ m) (m1 : m ≤ 12) (d0 : 1 ≤ d) (hT : ∀ i, i < 12 → w.cell? ⟨1, i, none⟩ = some (.int .u8 (tab.getD i 0))) :
    Calls Tryd.prog 4 #[.int .i64 y, .int .i64 m, .int .i64 d] w fun e w' => e = .returned (.bool true) ∧ w' = w := by
  have HT : Hid (∀ i, i < 12 → w.cell? ⟨1, i, none⟩ = some (.int .u8 (tab.getD i 0))) := hT
  clear hT
  have h2 : y ≤ 10000 := by omega
  have db := dim_bounds y m
  by_cases hd : dim y m < d
  · go_enter Tryd.func4, Tryd.ntmps4
    go_wp2_with fail
    refine (dim13 y m _ h0 h2 m0 m1).mono ?_
    rintro e w' ⟨rfl, rfl⟩
    go_wp2
    go_ret
    exact ⟨rfl, rfl⟩
  have d1 : d ≤ 31 := by omega
  have bd := days_bounds y m d h0 h2 d0 d1
  have e0 := days_epoch
  by_cases hlt : d < dim y m
  · have HN : Hid (days y m (d + 1) = days y m d + 1) := days_day y m d
    go_enter Tryd.func4, Tryd.ntmps4
    go_wp2_with fail
    refine (dim13 y m _ h0 h2 m0 m1).mono ?_
    rintro e w1 ⟨rfl, rfl⟩
    go_wp2_with fail
    refine (days14 1970 1 1 _ (by omega) (by omega) (by omega) (by omega) (by omega) (by omega)).mono ?_
    rintro e w2 ⟨rfl, rfl⟩
    go_wp2_with fail
    refine (days14 y m d _ h0 h2 m0 m1 d0 d1).mono ?_
    rintro e w3 ⟨rfl, rfl⟩
    go_wp2_with fail
    refine (dim15 y m _ h0 h2 m0 m1 HT.out).mono ?_
    rintro e w4 ⟨rfl, rfl⟩
    go_wp2_with fail
    refine (days14 y m (d + 1) _ h0 h2 m0 m1 (by omega) (by omega)).mono ?_
    rintro e w5 ⟨rfl, rfl⟩
    rw [HN.out]
    go_wp2
    go_ret
    exact ⟨ret_bool (by simp), rfl⟩
  · have ed : Hid (d = dim y m) := by show d = dim y m; omega
    by_cases hm : m < 12
    · have HN : Hid (days y (m + 1) 1 = days y m d + 1) := by
        have := days_month y m m0 hm
        rw [← ed.out] at this
        exact this
      go_enter Tryd.func4, Tryd.ntmps4
      go_wp2_with fail
      refine (dim13 y m _ h0 h2 m0 m1).mono ?_
      rintro e w1 ⟨rfl, rfl⟩
      go_wp2_with fail
      refine (days14 1970 1 1 _ (by omega) (by omega) (by omega) (by omega) (by omega) (by omega)).mono ?_
      rintro e w2 ⟨rfl, rfl⟩
      go_wp2_with fail
      refine (days14 y m d _ h0 h2 m0 m1 d0 d1).mono ?_
      rintro e w3 ⟨rfl, rfl⟩
      go_wp2_with fail
      refine (dim15 y m _ h0 h2 m0 m1 HT.out).mono ?_
      rintro e w4 ⟨rfl, rfl⟩
      go_wp2_with fail
      refine (days14 y (m + 1) 1 _ h0 h2 (by omega) (by omega) (by omega) (by omega)).mono ?_
      rintro e w5 ⟨rfl, rfl⟩
      rw [HN.out]
      go_wp2
      go_ret
      exact ⟨ret_bool (by simp), rfl⟩
    · have HN : Hid (days (y + 1) 1 1 = days y m d + 1) := by
        have := days_year y
        have e12 : m = 12 := by omega
        have e31 : d = 31 := by rw [ed.out, e12]; rfl
        rw [e12, e31]
        exact this
      go_enter Tryd.func4, Tryd.ntmps4
      go_wp2_with fail
      refine (dim13 y m _ h0 h2 m0 m1).mono ?_
      rintro e w1 ⟨rfl, rfl⟩
      go_wp2_with fail
      refine (days14 1970 1 1 _ (by omega) (by omega) (by omega) (by omega) (by omega) (by omega)).mono ?_
      rintro e w2 ⟨rfl, rfl⟩
      go_wp2_with fail
      refine (days14 y m d _ h0 h2 m0 m1 d0 d1).mono ?_
      rintro e w3 ⟨rfl, rfl⟩
      go_wp2_with fail
      refine (dim15 y m _ h0 h2 m0 m1 HT.out).mono ?_
      rintro e w4 ⟨rfl, rfl⟩
      go_wp2_with fail
      refine (days14 (y + 1) 1 1 _ (by omega) (by omega) (by omega) (by omega) (by omega) (by omega)).mono ?_
      rintro e w5 ⟨rfl, rfl⟩
      rw [HN.out]
      go_wp2
      go_ret
      exact ⟨ret_bool (by simp), rfl⟩

theorem law_any (y m d : Int) (w : World) (hT : ∀ i, i < 12 → w.cell? ⟨1, i, none⟩ = some (.int .u8 (tab.getD i 0))) :
    Calls Tryd.prog 4 #[.int .i64 y, .int .i64 m, .int .i64 d] w fun e w' => e = .returned (.bool true) ∧ w' = w := by
  by_cases h : y < 0 ∨ 9999 < y ∨ m < 1 ∨ 12 < m ∨ d < 1
  · exact law_out y m d w h
  · exact law_in y m d w (by omega) (by omega) (by omega) (by omega) (by omega) hT
end Go.Proofs.Qxb6003346aDoor.Days
