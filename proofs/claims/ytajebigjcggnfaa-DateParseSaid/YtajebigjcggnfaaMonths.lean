/- Plain mathematics of months and weeks: moving a day by months, whole months between two days, the ISO week. No program is in sight here. -/
import Derived.Test.YtajebigjcggnfaaCal
namespace Go.Proofs.Ytajebigjcggnfaa.Cal

/-- the month's place, counted from January 2000 -/
def idx (y m : Int) : Int := (y - 2000) * 12 + m - 1
/-- day d of the month at a place; reduced to the last day -/
def tgt (d a : Int) : Int := num (2000 + a / 12) (a % 12 + 1) (min d (len (2000 + a / 12) (a % 12 + 1)))

theorem idx_bd {y m d : Int} (h : vld y m d) : 0 ≤ idx y m ∧ idx y m ≤ 2399 := by
  obtain ⟨h1, h2, h3, h4, _⟩ := h
  unfold idx; omega
theorem idx_y {y m d : Int} (h : vld y m d) : 2000 + idx y m / 12 = y ∧ idx y m % 12 + 1 = m := by
  obtain ⟨h1, h2, h3, h4, _⟩ := h
  unfold idx; omega
theorem tgt_vld {d a : Int} (hd : 1 ≤ d) (h0 : 0 ≤ a) (h1 : a ≤ 2399) : vld (2000 + a / 12) (a % 12 + 1) (min d (len (2000 + a / 12) (a % 12 + 1))) := by
  have := len_bd (2000 + a / 12) (a % 12 + 1) (by omega) (by omega)
  exact ⟨by omega, by omega, by omega, by omega, by omega, by omega⟩
theorem tgt_range {d a : Int} (hd : 1 ≤ d) (h0 : 0 ≤ a) (h1 : a ≤ 2399) : 0 ≤ tgt d a ∧ tgt d a ≤ 73048 := num_range (tgt_vld hd h0 h1)
theorem tgt_mono {d d' a b : Int} (hd : 1 ≤ d) (hd' : 1 ≤ d') (h0 : 0 ≤ a) (h1 : b ≤ 2399) (h : a < b) : tgt d a < tgt d' b := by
  unfold tgt
  by_cases hy : a / 12 = b / 12
  · have v := tgt_vld (d := d) (a := a) hd h0 (by omega)
    have v' := tgt_vld (d := d') (a := b) hd' (by omega) h1
    rw [hy] at v ⊢
    exact num_lt_month v v' (by omega)
  · exact num_lt_year (tgt_vld hd h0 (by omega)) (tgt_vld hd' (by omega) h1) (by omega)
theorem tgt_self {y m d : Int} (h : vld y m d) : tgt d (idx y m) = num y m d := by
  obtain ⟨e1, e2⟩ := idx_y h
  unfold tgt
  rw [e1, e2, Int.min_eq_left h.2.2.2.2.2]
theorem tgt_lt {y m d y' m' d' : Int} (h : vld y m d) (h' : vld y' m' d') (k : Int) (h0 : 0 ≤ idx y m + k) (hk : idx y m + k < idx y' m') : tgt d (idx y m + k) < num y' m' d' := by
  rw [← tgt_self h']
  exact tgt_mono h.2.2.2.2.1 h'.2.2.2.2.1 h0 (idx_bd h').2 hk
theorem lt_tgt {y m d y' m' d' : Int} (h : vld y m d) (h' : vld y' m' d') (k : Int) (h0 : idx y m + k ≤ 2399) (hk : idx y' m' < idx y m + k) : num y' m' d' < tgt d (idx y m + k) := by
  rw [← tgt_self h']
  exact tgt_mono h'.2.2.2.2.1 h.2.2.2.2.1 (idx_bd h').1 h0 hk
theorem idx_le {y m d y' m' d' : Int} (h : vld y m d) (h' : vld y' m' d') (hn : num y m d ≤ num y' m' d') : idx y m ≤ idx y' m' := by
  by_cases c : idx y' m' < idx y m
  · have := tgt_mono (d := d') (d' := d) h'.2.2.2.2.1 h.2.2.2.2.1 (idx_bd h').1 (idx_bd h).2 c
    rw [tgt_self h, tgt_self h'] at this; omega
  · omega

/-- the whole months from one date to a later one -/
def mon (y m d y' m' d' : Int) : Int := if num y' m' d' < tgt d (idx y' m') then idx y' m' - idx y m - 1 else idx y' m' - idx y m
theorem mon_bd {y m d y' m' d' : Int} (h : vld y m d) (h' : vld y' m' d') (hn : num y m d ≤ num y' m' d') : 0 ≤ mon y m d y' m' d' ∧ mon y m d y' m' d' ≤ 2399 := by
  have a := idx_le h h' hn
  have b := idx_bd h
  have b' := idx_bd h'
  unfold mon
  split
  · rename_i c
    by_cases e : idx y' m' = idx y m
    · rw [e, tgt_self h] at c; omega
    · omega
  · omega
/-- one month more would be too many -/
theorem mon_stop {y m d y' m' d' : Int} (h : vld y m d) (h' : vld y' m' d') (hn : num y m d ≤ num y' m' d') (k : Int) (hk : mon y m d y' m' d' < k) (hr : idx y m + k ≤ 2399) : num y' m' d' < tgt d (idx y m + k) := by
  have a := mon_bd h h' hn
  have b := idx_bd h
  by_cases c : idx y' m' < idx y m + k
  · exact lt_tgt h h' k hr c
  · unfold mon at hk
    split at hk
    · rename_i g
      rw [show idx y m + k = idx y' m' from by omega]; exact g
    · omega
theorem mon_go {y m d y' m' d' : Int} (h : vld y m d) (h' : vld y' m' d') (k : Int) (h0 : 0 ≤ k) (hk : k ≤ mon y m d y' m' d') : tgt d (idx y m + k) ≤ num y' m' d' := by
  have b := idx_bd h
  by_cases c : idx y m + k < idx y' m'
  · have := tgt_lt h h' k (by omega) c; omega
  · unfold mon at hk
    split at hk
    · omega
    · rw [show idx y m + k = idx y' m' from by omega]; omega
theorem mon_range {y m d y' m' d' : Int} (h' : vld y' m' d') : idx y m + mon y m d y' m' d' ≤ 2399 := by
  have b' := idx_bd h'
  unfold mon; split <;> omega

/-- the weekday, the Thursday of a week -/
def wd (n : Int) : Int := (n + 5) % 7
def mid (n : Int) : Int := n - wd n + 3
theorem mid_bd (n : Int) (h : 0 ≤ n) (h2 : n ≤ 73048) : -2 ≤ mid n ∧ mid n ≤ 73050 := by unfold mid wd; omega
theorem mid_succ (n : Int) : mid (n + 1) = if wd n = 6 then mid n + 7 else mid n := by unfold mid wd; split <;> omega
theorem mid_neg (n : Int) (h : 0 ≤ n) (h2 : mid n < 0) : mid n = -2 := by unfold mid wd at *; omega
theorem mid_big (n : Int) (h : n ≤ 73048) (h2 : 73048 < mid n) : mid n = 73050 := by unfold mid wd at *; omega
/-- the number of the week that holds a Thursday -/
def wk (y t : Int) : Int := (t - ys y) / 7 + 1
theorem wk_bd {y t : Int} (h1 : ys y ≤ t) (h2 : t < ys (y + 1)) : 1 ≤ wk y t ∧ wk y t ≤ 53 := by
  rw [ys_succ] at h2
  have := lp_01 y
  unfold wk; omega
theorem wk_next {y t u : Int} (h1 : ys y ≤ t) (h2 : t < ys (y + 1)) : ¬ (u = y ∧ wk u (t + 7) = wk y t) := by
  rintro ⟨rfl, h⟩
  unfold wk at h; omega
theorem exists_year (n : Int) (h : -365 ≤ n) (h2 : n < 73414) : ∃ y, 1999 ≤ y ∧ y ≤ 2200 ∧ ys y ≤ n ∧ n < ys (y + 1) := by
  have key : ∀ k : Nat, k ≤ 202 → n < ys (1999 + (k : Int)) → ∃ y, 1999 ≤ y ∧ y ≤ 2200 ∧ ys y ≤ n ∧ n < ys (y + 1) := by
    intro k
    induction k with
    | zero => intro _ hk; rw [show (1999 : Int) + ((0 : Nat) : Int) = 1999 from by omega, show ys 1999 = -365 from by decide] at hk; omega
    | succ k ih =>
      intro hk1 hk
      by_cases c : n < ys (1999 + (k : Int))
      · exact ih (by omega) c
      · exact ⟨1999 + k, by omega, by omega, by omega, by rw [show (1999 : Int) + (k : Int) + 1 = 1999 + ((k + 1 : Nat) : Int) from by omega]; exact hk⟩
  refine key 202 (by omega) ?_
  rw [show (1999 : Int) + ((202 : Nat) : Int) = 2201 from by decide, show ys 2201 = 73414 from by decide]; omega
theorem ys_1999 : ys 1999 = -365 := by decide
theorem ys_2201 : ys 2201 = 73414 := by decide

/-- 28 years on, before 2072, the weekday is the same -/
theorem later {y m d : Int} (h : vld y m d) (hy : y ≤ 2071) : vld (y + 28) m d ∧ num (y + 28) m d = num y m d + 10227 := by
  have e : lp (y + 28) = lp y := by
    obtain ⟨h1, _⟩ := h
    unfold lp
    by_cases c : y % 4 = 0
    · rw [if_pos (by omega), if_pos (by omega)]
    · rw [if_neg (by omega), if_neg (by omega)]
  have e2 : ∀ k, cum (y + 28) k = cum y k := by intro k; unfold cum; rw [e]
  have e3 : ∀ k, len (y + 28) k = len y k := by intro k; unfold len; rw [e2, e2]
  obtain ⟨h1, h2, h3, h4, h5, h6⟩ := h
  refine ⟨⟨by omega, by omega, h3, h4, h5, by rw [e3]; exact h6⟩, ?_⟩
  unfold num; rw [e2]; unfold ys; omega
end Go.Proofs.Ytajebigjcggnfaa.Cal
