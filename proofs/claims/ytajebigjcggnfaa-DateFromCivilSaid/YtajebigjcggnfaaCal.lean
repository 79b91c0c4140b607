/- Plain mathematics of the calendar 2000 to 2199: lengths of years and months, day numbers, weekdays. No program is in sight here. -/
import Derived.KernelRfl
namespace Go.Proofs.Ytajebigjcggnfaa.Cal

/-- 1 in a leap year, else 0 -/
def lp (y : Int) : Int := if y % 4 = 0 ∧ (¬ y % 100 = 0 ∨ y % 400 = 0) then 1 else 0
/-- the days from day 0 to the first of January of year y -/
def ys (y : Int) : Int := 365 * (y - 2000) + (y - 2000 + 3) / 4 - (y - 2000 + 99) / 100 + (y - 2000 + 399) / 400
/-- the days of year y ahead of month m -/
def cum (y m : Int) : Int := if m ≤ 2 then 31 * (m - 1) else (153 * (m - 3) + 2) / 5 + 59 + lp y
/-- the length of month m -/
def len (y m : Int) : Int := cum y (m + 1) - cum y m
/-- the day number -/
def num (y m d : Int) : Int := ys y + cum y m + d - 1

theorem lp_01 (y : Int) : 0 ≤ lp y ∧ lp y ≤ 1 := by unfold lp; split <;> omega
theorem ys_succ (y : Int) : ys (y + 1) = ys y + 365 + lp y := by unfold ys lp; split <;> omega
theorem ys_lo (y : Int) (h : 1999 ≤ y) : 365 * (y - 2000) ≤ ys y := by unfold ys; omega
theorem ys_mono (a b : Int) (h : a ≤ b) : ys a ≤ ys b := by unfold ys; omega
theorem ys_guess (n : Int) (h : 0 ≤ n) : ys (2000 + n / 366) ≤ n := by unfold ys; omega
theorem ys_bd (y : Int) (h : 1999 ≤ y) (h2 : y ≤ 2300) : -365 ≤ ys y ∧ ys y ≤ 110000 := by unfold ys; omega
theorem ys_2200 : ys 2200 = 73049 := by decide
theorem ys_2000 : ys 2000 = 0 := by decide

theorem len_eq (y m : Int) (h : 1 ≤ m) (h2 : m ≤ 12) : len y m = if m = 2 then 28 + lp y else if m = 4 ∨ m = 6 ∨ m = 9 ∨ m = 11 then 30 else 31 := by
  have := lp_01 y
  unfold len cum
  obtain rfl | rfl | rfl | rfl | rfl | rfl | rfl | rfl | rfl | rfl | rfl | rfl : m = 1 ∨ m = 2 ∨ m = 3 ∨ m = 4 ∨ m = 5 ∨ m = 6 ∨ m = 7 ∨ m = 8 ∨ m = 9 ∨ m = 10 ∨ m = 11 ∨ m = 12 := by omega
  all_goals (simp <;> omega)
theorem len_bd (y m : Int) (h : 1 ≤ m) (h2 : m ≤ 12) : 28 ≤ len y m ∧ len y m ≤ 31 := by
  have := lp_01 y
  rw [len_eq y m h h2]; split
  · omega
  · split <;> omega
theorem cum_succ (y m : Int) : cum y (m + 1) = cum y m + len y m := by unfold len; omega
theorem cum_one (y : Int) : cum y 1 = 0 := by unfold cum; rfl
theorem cum_13 (y : Int) : cum y 13 = 365 + lp y := by unfold cum; omega
theorem cum_bd (y m : Int) (h : 1 ≤ m) (h2 : m ≤ 13) : 0 ≤ cum y m ∧ cum y m ≤ 366 := by
  have := lp_01 y
  unfold cum; split <;> omega
theorem cum_mono (y a b : Int) (h : 1 ≤ a) (h2 : a ≤ b) (h3 : b ≤ 13) : cum y a ≤ cum y b := by
  have := lp_01 y
  unfold cum; split <;> split <;> omega

/-- a valid date -/
def vld (y m d : Int) : Prop := 2000 ≤ y ∧ y ≤ 2199 ∧ 1 ≤ m ∧ m ≤ 12 ∧ 1 ≤ d ∧ d ≤ len y m

theorem num_bd {y m d : Int} (h : vld y m d) : ys y ≤ num y m d ∧ num y m d < ys (y + 1) := by
  obtain ⟨h1, h2, h3, h4, h5, h6⟩ := h
  have a := cum_bd y m h3 (by omega)
  have b := cum_mono y (m + 1) 13 (by omega) (by omega) (by omega)
  rw [cum_13, cum_succ] at b
  rw [ys_succ]; unfold num; omega
theorem num_range {y m d : Int} (h : vld y m d) : 0 ≤ num y m d ∧ num y m d ≤ 73048 := by
  have a := num_bd h
  obtain ⟨h1, h2, _⟩ := h
  have b := ys_mono 2000 y h1
  have c := ys_mono (y + 1) 2200 (by omega)
  rw [ys_2000] at b; rw [ys_2200] at c; omega
/-- dates are ordered as their numbers are -/
theorem num_lt_year {y m d y' m' d' : Int} (h : vld y m d) (h' : vld y' m' d') (hy : y < y') : num y m d < num y' m' d' := by
  have a := num_bd h
  have a' := num_bd h'
  have b := ys_mono (y + 1) y' (by omega)
  omega
theorem num_lt_month {y m d m' d' : Int} (h : vld y m d) (h' : vld y m' d') (hm : m < m') : num y m d < num y m' d' := by
  obtain ⟨_, _, h3, h4, h5, h6⟩ := h
  obtain ⟨_, _, h3', h4', h5', h6'⟩ := h'
  have b := cum_mono y (m + 1) m' (by omega) (by omega) (by omega)
  rw [cum_succ] at b
  unfold num; omega
theorem num_inj {y m d y' m' d' : Int} (h : vld y m d) (h' : vld y' m' d') (e : num y m d = num y' m' d') : y = y' ∧ m = m' ∧ d = d' := by
  have hy : y = y' := by
    rcases Int.lt_trichotomy y y' with a | a | a
    · have := num_lt_year h h' a; omega
    · exact a
    · have := num_lt_year h' h a; omega
  subst hy
  have hm : m = m' := by
    rcases Int.lt_trichotomy m m' with a | a | a
    · have := num_lt_month h h' a; omega
    · exact a
    · have := num_lt_month h' h a; omega
  subst hm
  refine ⟨rfl, rfl, ?_⟩
  unfold num at e; omega
theorem num_lt_iff {y m d y' m' d' : Int} (h : vld y m d) (h' : vld y' m' d') : num y m d < num y' m' d' ↔ (y < y' ∨ (y = y' ∧ (m < m' ∨ (m = m' ∧ d < d')))) := by
  rcases Int.lt_trichotomy y y' with a | a | a
  · have := num_lt_year h h' a; omega
  · subst a
    rcases Int.lt_trichotomy m m' with b | b | b
    · have := num_lt_month h h' b; omega
    · subst b; unfold num; omega
    · have := num_lt_month h' h b; omega
  · have := num_lt_year h' h a; omega

/-- the year of a number is found -/
theorem year_of {n y : Int} (h : ys y ≤ n) (h2 : n < ys (y + 1)) {y' : Int} (h' : ys y' ≤ n) (h2' : n < ys (y' + 1)) : y = y' := by
  rcases Int.lt_trichotomy y y' with a | a | a
  · have := ys_mono (y + 1) y' (by omega); omega
  · exact a
  · have := ys_mono (y' + 1) y (by omega); omega
theorem year_le {n y : Int} (h : ys y ≤ n) (hn : n ≤ 73048) : y ≤ 2199 := by
  by_cases a : 2199 < y
  · have := ys_mono 2200 y (by omega); rw [ys_2200] at this; omega
  · omega

/-- a number's date, by search: exists for every number of the range -/
theorem exists_date (n : Int) (h : 0 ≤ n) (h2 : n ≤ 73048) : ∃ y m d, vld y m d ∧ num y m d = n := by
  have hy : ∃ y, 2000 ≤ y ∧ ys y ≤ n ∧ n < ys (y + 1) := by
    have key : ∀ k : Nat, n < ys (2000 + (k : Int)) → ∃ y, 2000 ≤ y ∧ ys y ≤ n ∧ n < ys (y + 1) := by
      intro k
      induction k with
      | zero => intro hk; rw [show (2000 : Int) + ((0 : Nat) : Int) = 2000 from by omega, ys_2000] at hk; omega
      | succ k ih =>
        intro hk
        by_cases c : n < ys (2000 + (k : Int))
        · exact ih c
        · exact ⟨2000 + k, by omega, by omega, by rw [show (2000 : Int) + (k : Int) + 1 = 2000 + ((k + 1 : Nat) : Int) from by omega]; exact hk⟩
    exact key 200 (by rw [show (2000 : Int) + ((200 : Nat) : Int) = 2200 from by decide, ys_2200]; omega)
  obtain ⟨y, hy1, hy2, hy3⟩ := hy
  have hy4 := year_le hy2 h2
  have hm : ∃ m, 1 ≤ m ∧ m ≤ 12 ∧ cum y m ≤ n - ys y ∧ n - ys y < cum y (m + 1) := by
    have key : ∀ k : Nat, k ≤ 12 → n - ys y < cum y (1 + (k : Int)) → ∃ m, 1 ≤ m ∧ m ≤ 12 ∧ cum y m ≤ n - ys y ∧ n - ys y < cum y (m + 1) := by
      intro k
      induction k with
      | zero => intro _ hk; rw [show (1 : Int) + ((0 : Nat) : Int) = 1 from by omega, cum_one] at hk; omega
      | succ k ih =>
        intro hk12 hk
        by_cases c : n - ys y < cum y (1 + (k : Int))
        · exact ih (by omega) c
        · exact ⟨1 + k, by omega, by omega, by omega, by rw [show (1 : Int) + (k : Int) + 1 = 1 + ((k + 1 : Nat) : Int) from by omega]; exact hk⟩
    refine key 12 (by omega) ?_
    rw [show (1 : Int) + ((12 : Nat) : Int) = 13 from by decide, cum_13]
    rw [ys_succ] at hy3; omega
  obtain ⟨m, hm1, hm2, hm3, hm4⟩ := hm
  rw [cum_succ] at hm4
  exact ⟨y, m, n - ys y - cum y m + 1, ⟨hy1, hy4, hm1, hm2, by omega, by omega⟩, by unfold num; omega⟩

end Go.Proofs.Ytajebigjcggnfaa.Cal
