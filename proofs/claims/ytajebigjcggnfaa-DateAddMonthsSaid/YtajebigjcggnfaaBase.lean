/- The walks of the small functions of the calendar: Valid, IsLeap, DaysInMonth, yearStart, Weekday and their counterparts in the reference. -/
import Derived.Test.YtajebigjcggnfaaRows
import Derived.Test.YtajebigjcggnfaaMonths
import Derived.WalkKit
import Derived.WalkSpells
import Derived.WalkLawsBesides
import Derived.IntWalk
import Derived.Lib.Hide
import Derived.Below
namespace Go.Proofs.Ytajebigjcggnfaa
open Go.RowKit
set_option linter.unusedVariables false

set_option maxHeartbeats 400000 in
theorem valid_yes (n : Int) (w : World) (h0 : 0 ≤ n) (h1 : n ≤ 73048) :
    Calls Try.prog 17 #[.int .i64 n] w fun e w' => e = .returned (.bool true) ∧ w = w' := by
  go_enter Try.func17, Try.ntmps17
  go_wp2
  go_ret
  exact ⟨rfl, rfl⟩
set_option maxHeartbeats 400000 in
theorem valid_no (n : Int) (w : World) (h : n < 0 ∨ 73048 < n) :
    Calls Try.prog 17 #[.int .i64 n] w fun e w' => e = .returned (.bool false) ∧ w = w' := by
  rcases h with h | h
  all_goals
    go_enter Try.func17, Try.ntmps17
    go_wp2
    go_ret
    exact ⟨by simp <;> omega, rfl⟩
set_option maxHeartbeats 400000 in
theorem rday_yes (n : Int) (w : World) (h0 : 0 ≤ n) (h1 : n ≤ 73048) :
    Calls Try.prog 16 #[.int .i64 n] w fun e w' => e = .returned (.bool true) ∧ w = w' := by
  go_enter Try.func16, Try.ntmps16
  go_wp2
  go_ret
  exact ⟨rfl, rfl⟩
set_option maxHeartbeats 400000 in
theorem rday_no (n : Int) (w : World) (h : n < 0 ∨ 73048 < n) :
    Calls Try.prog 16 #[.int .i64 n] w fun e w' => e = .returned (.bool false) ∧ w = w' := by
  rcases h with h | h
  all_goals
    go_enter Try.func16, Try.ntmps16
    go_wp2
    go_ret
    exact ⟨by simp <;> omega, rfl⟩

theorem ret_bool {a b : Bool} (h : a = b) : Ending.returned (.bool a) = .returned (.bool b) := by rw [h]
theorem ret_int {k : IntKind} {a b : Int} (h : a = b) : Ending.returned (.int k a) = .returned (.int k b) := by rw [h]

/-- a leap year, as a Bool -/
def lpB (y : Int) : Bool := decide (y % 4 = 0) && (!decide (y % 100 = 0) || decide (y % 400 = 0))
theorem lpB_lp (y : Int) : Cal.lp y = if lpB y = true then 1 else 0 := by
  unfold Cal.lp lpB
  by_cases h1 : y % 4 = 0 <;> by_cases h2 : y % 100 = 0 <;> by_cases h3 : y % 400 = 0 <;> simp [h1, h2, h3]

/-- a leap year, as the code asks at any int -/
def lpT (y : Int) : Bool := decide (y.tmod 4 = 0) && (!decide (y.tmod 100 = 0) || decide (y.tmod 400 = 0))
theorem lpT_lpB (y : Int) (h : 0 ≤ y) : lpT y = lpB y := by
  unfold lpT lpB
  rw [Int.tmod_eq_emod_of_nonneg h, Int.tmod_eq_emod_of_nonneg h, Int.tmod_eq_emod_of_nonneg h]
theorem tmod_400 (y : Int) (h : y.tmod 400 = 0) : y.tmod 4 = 0 := by
  have := Int.tmod_add_mul_tdiv y 400
  rw [h] at this
  rw [← this, show (0 : Int) + 400 * y.tdiv 400 = 4 * (100 * y.tdiv 400) from by omega, Int.mul_tmod_right]

set_option maxHeartbeats 400000 in
theorem leap_pos (y : Int) (w : World) (h0 : 0 ≤ y) (h1 : y ≤ 9223372036854775807) :
    Calls Try.prog 24 #[.int .i64 y] w fun e w' => e = .returned (.bool (lpB y)) ∧ w = w' := by
  go_enter Try.func24, Try.ntmps24
  go_wp2
  all_goals
    go_ret
    refine ⟨ret_bool ?_, rfl⟩
    unfold lpB
    rw [Bool.eq_iff_iff]
    simp <;> omega
set_option maxHeartbeats 400000 in
theorem leap_any (y : Int) (w : World) :
    Calls Try.prog 24 #[.int .i64 y] w fun e w' => e = .returned (.bool (lpT y)) ∧ w = w' := by
  have t4 := tmod_400 y
  go_enter Try.func24, Try.ntmps24
  go_wp2
  all_goals
    go_ret
    refine ⟨ret_bool ?_, rfl⟩
    unfold lpT
    rw [Bool.eq_iff_iff]
    simp <;> omega
set_option maxHeartbeats 400000 in
theorem rleap_any (y : Int) (w : World) :
    Calls Try.prog 25 #[.int .i64 y] w fun e w' => e = .returned (.bool (lpT y)) ∧ w = w' := by
  have t4 := tmod_400 y
  go_enter Try.func25, Try.ntmps25
  go_wp2
  all_goals
    go_ret
    refine ⟨ret_bool ?_, rfl⟩
    unfold lpT
    rw [Bool.eq_iff_iff]
    simp <;> omega
theorem rleap_pos (y : Int) (w : World) (h0 : 0 ≤ y) :
    Calls Try.prog 25 #[.int .i64 y] w fun e w' => e = .returned (.bool (lpB y)) ∧ w = w' := by
  rw [← lpT_lpB y h0]; exact rleap_any y w

set_option maxHeartbeats 400000 in
/-- yearStart -/
theorem ystart (y : Int) (w : World) (h0 : 1999 ≤ y) (h1 : y ≤ 2300) :
    Calls Try.prog 44 #[.int .i64 y] w fun e w' => e = .returned (.int .i64 (Cal.ys y)) ∧ w = w' := by
  by_cases c : y < 2000
  · obtain rfl : y = 1999 := by omega
    go_enter Try.func44, Try.ntmps44
    go_wp2
    go_ret
    exact ⟨ret_int (by decide), rfl⟩
  · go_enter Try.func44, Try.ntmps44
    go_wp2
    go_ret
    exact ⟨ret_int (by unfold Cal.ys; omega), rfl⟩

set_option maxHeartbeats 400000 in
/-- weekdays -/
theorem wday (n : Int) (w : World) (h0 : 0 ≤ n) (h1 : n ≤ 73048) :
    Calls Try.prog 18 #[.int .i64 n] w fun e w' => e = .returned (.int .i64 (Cal.wd n)) ∧ w = w' := by
  go_enter Try.func18, Try.ntmps18
  go_wp2_with (go_at_call 17; refine (valid_yes _ _ (by omega) (by omega)).mono ?_; rintro e w' ⟨rfl, rfl⟩)
  go_ret
  exact ⟨ret_int (by unfold Cal.wd; omega), rfl⟩
set_option maxHeartbeats 400000 in
theorem wday_no (n : Int) (w : World) (h : n < 0 ∨ 73048 < n) :
    Calls Try.prog 18 #[.int .i64 n] w fun e w' => e = .returned (.int .i64 (-1)) ∧ w = w' := by
  go_enter Try.func18, Try.ntmps18
  go_wp2_with (go_at_call 17; refine (valid_no _ _ h).mono ?_; rintro e w' ⟨rfl, rfl⟩)
  go_ret
  exact ⟨rfl, rfl⟩
set_option maxHeartbeats 400000 in
theorem rwday (n : Int) (w : World) (h0 : 0 ≤ n) (h1 : n ≤ 73048) :
    Calls Try.prog 21 #[.int .i64 n] w fun e w' => e = .returned (.int .i64 (Cal.wd n)) ∧ w = w' := by
  go_enter Try.func21, Try.ntmps21
  go_wp2
  go_ret
  exact ⟨ret_int (by unfold Cal.wd; omega), rfl⟩

set_option maxHeartbeats 1000000 in
/-- the reference's Length of a month -/
theorem rlen (y m : Int) (w : World) (h0 : 2000 ≤ y) (h1 : y ≤ 2199) (h2 : 1 ≤ m) (h3 : m ≤ 12) :
    Calls Try.prog 27 #[.int .i64 y, .int .i64 m] w fun e w' => e = .returned (.int .i64 (Cal.len y m)) ∧ w = w' := by
  have el := Cal.len_eq y m h2 h3
  rw [lpB_lp] at el
  have E := Lib.hid el
  clear el
  by_cases c : m = 2
  · subst c
    cases hb : lpB y
    all_goals
      have HB := Lib.hid hb
      clear hb
      go_enter Try.func27, Try.ntmps27
      go_wp2_with (go_at_call 25; refine (rleap_pos _ _ (by omega)).mono ?_; rintro e w' ⟨rfl, rfl⟩; rw [HB.out])
      go_ret
      exact ⟨ret_int (by rw [E.out, HB.out]; rfl), rfl⟩
  · obtain rfl | rfl | rfl | rfl | rfl | rfl | rfl | rfl | rfl | rfl | rfl : m = 1 ∨ m = 3 ∨ m = 4 ∨ m = 5 ∨ m = 6 ∨ m = 7 ∨ m = 8 ∨ m = 9 ∨ m = 10 ∨ m = 11 ∨ m = 12 := by omega
    all_goals
      clear c
      go_enter Try.func27, Try.ntmps27
      go_wp2_with fail
      go_ret
      exact ⟨ret_int (by rw [E.out]; rfl), rfl⟩
set_option maxHeartbeats 1000000 in
theorem rlen_no (y m : Int) (w : World) (h : ¬ (2000 ≤ y ∧ y ≤ 2199 ∧ 1 ≤ m ∧ m ≤ 12)) :
    Calls Try.prog 27 #[.int .i64 y, .int .i64 m] w fun e w' => e = .returned (.int .i64 0) ∧ w = w' := by
  by_cases a : y < 2000
  · go_enter Try.func27, Try.ntmps27
    go_wp2
    go_ret
    exact ⟨rfl, rfl⟩
  by_cases b : 2199 < y
  · go_enter Try.func27, Try.ntmps27
    go_wp2
    go_ret
    exact ⟨rfl, rfl⟩
  by_cases c : m < 1
  · go_enter Try.func27, Try.ntmps27
    go_wp2
    go_ret
    exact ⟨rfl, rfl⟩
  have d : 12 < m := by omega
  go_enter Try.func27, Try.ntmps27
  go_wp2
  go_ret
  exact ⟨rfl, rfl⟩

set_option maxHeartbeats 2000000 in
/-- DaysInMonth: its table lies in a new block. -/
theorem dim (y m : Int) (w : World) (h0 : 2000 ≤ y) (h1 : y ≤ 2199) (h2 : 1 ≤ m) (h3 : m ≤ 12) :
    Calls Try.prog 26 #[.int .i64 y, .int .i64 m] w fun e w' => e = .returned (.int .i64 (Cal.len y m)) ∧ Below w.heap.size w w' := by
  have el := Cal.len_eq y m h2 h3
  rw [lpB_lp] at el
  have E := Lib.hid el
  clear el
  by_cases c : m = 2
  · subst c
    cases hb : lpB y
    all_goals
      have HB := Lib.hid hb
      clear hb
      go_enter Try.func26, Try.ntmps26
      go_wp2_with (go_at_call 24; refine (leap_pos _ _ (by omega) (by omega)).mono ?_; rintro e w' ⟨rfl, rfl⟩; rw [HB.out])
      go_ret
      exact ⟨ret_int (by rw [E.out, HB.out]; rfl), (Below.refl _ _).alloc (Nat.le_refl _) _⟩
  · obtain rfl | rfl | rfl | rfl | rfl | rfl | rfl | rfl | rfl | rfl | rfl : m = 1 ∨ m = 3 ∨ m = 4 ∨ m = 5 ∨ m = 6 ∨ m = 7 ∨ m = 8 ∨ m = 9 ∨ m = 10 ∨ m = 11 ∨ m = 12 := by omega
    all_goals
      clear c
      go_enter Try.func26, Try.ntmps26
      go_wp2_with fail
      go_ret
      exact ⟨ret_int (by rw [E.out]; rfl), (Below.refl _ _).alloc (Nat.le_refl _) _⟩
set_option maxHeartbeats 1000000 in
theorem dim_no (y m : Int) (w : World) (h : ¬ (2000 ≤ y ∧ y ≤ 2199 ∧ 1 ≤ m ∧ m ≤ 12)) :
    Calls Try.prog 26 #[.int .i64 y, .int .i64 m] w fun e w' => e = .returned (.int .i64 0) ∧ w = w' := by
  by_cases a : y < 2000
  · go_enter Try.func26, Try.ntmps26
    go_wp2
    go_ret
    exact ⟨rfl, rfl⟩
  by_cases b : 2199 < y
  · go_enter Try.func26, Try.ntmps26
    go_wp2
    go_ret
    exact ⟨rfl, rfl⟩
  by_cases c : m < 1
  · go_enter Try.func26, Try.ntmps26
    go_wp2
    go_ret
    exact ⟨rfl, rfl⟩
  have d : 12 < m := by omega
  go_enter Try.func26, Try.ntmps26
  go_wp2
  go_ret
  exact ⟨rfl, rfl⟩
end Go.Proofs.Ytajebigjcggnfaa
