/- The walks of the laws DateMonthsBetween, DateWeeks, DateWeekdays, DateAddMonths. -/
import Derived.Test.YtajebigjcggnfaaKnown
import Derived.OpenShut
namespace Go.Proofs.Ytajebigjcggnfaa
open Go.RowKit
set_option linter.unusedVariables false
attribute [local go_sem ↓] Go.wp_at_zero Go.wp_at_succ

/-- both contracts of MonthsBetween and the reference's, for two valid days -/
theorem months_all (n n' : Int) (h : 0 ≤ n) (h1 : n ≤ 73048) (h' : 0 ≤ n') (h1' : n' ≤ 73048) : ∃ v : Int, -3000 ≤ v ∧ v ≤ 3000 ∧
    (∀ W, Calls Try.prog 28 #[.int .i64 n, .int .i64 n'] W fun e w' => e = .returned (.tuple #[.int .i64 v, .int .i64 0]) ∧ Below W.heap.size W w') ∧
    (∀ W, Calls Try.prog 28 #[.int .i64 n', .int .i64 n] W fun e w' => e = .returned (.tuple #[.int .i64 (-v), .int .i64 0]) ∧ Below W.heap.size W w') ∧
    (∀ W, Calls Try.prog 29 #[.int .i64 n, .int .i64 n'] W fun e w' => e = .returned (.int .i64 v) ∧ Below W.heap.size W w') := by
  obtain ⟨y, m, d, hv, hn⟩ := Cal.exists_date n h h1
  obtain ⟨y', m', d', hv', hn'⟩ := Cal.exists_date n' h' h1'
  rcases Int.lt_trichotomy n n' with c | c | c
  · have b := Cal.mon_bd hv hv' (by rw [hn, hn']; omega)
    exact ⟨_, by omega, by omega, fun W => mb_le n n' y m d y' m' d' W hv hn hv' hn' (by omega), fun W => mb_gt n' n y' m' d' y m d W hv' hn' hv hn c, fun W => rmon_le n n' y m d y' m' d' W hv hn hv' hn' (by omega)⟩
  · subst c
    obtain ⟨rfl, rfl, rfl⟩ := Cal.num_inj hv hv' (by rw [hn, hn'])
    have hz : Cal.mon y m d y m d = 0 := by unfold Cal.mon; rw [Cal.tgt_self hv, if_neg (by omega)]; omega
    refine ⟨0, by omega, by omega, fun W => ?_, fun W => ?_, fun W => ?_⟩
    · have := mb_le n n y m d y m d W hv hn hv hn (by omega); rwa [hz] at this
    · have := mb_le n n y m d y m d W hv hn hv hn (by omega); rwa [hz] at this
    · have := rmon_le n n y m d y m d W hv hn hv hn (by omega); rwa [hz] at this
  · have b := Cal.mon_bd hv' hv (by rw [hn, hn']; omega)
    refine ⟨-(Cal.mon y' m' d' y m d), by omega, by omega, fun W => mb_gt n n' y m d y' m' d' W hv hn hv' hn' c, fun W => ?_, fun W => rmon_gt n n' y m d y' m' d' W hv hn hv' hn' c⟩
    rw [Int.neg_neg]
    exact mb_le n' n y' m' d' y m d W hv' hn' hv hn (by omega)

set_option maxHeartbeats 1000000 in
theorem dateMonthsBetween_walk (a : Int) (wa : (Lit.int .i64 a).wf = true) (b : Int) (wb : (Lit.int .i64 b).wf = true) (w : World) :
    Calls Try.prog 6 #[.int .i64 a, .int .i64 b] w fun e w' => e = .returned (.bool true) ∧ Below w.heap.size w w' := by
  have ba := Lib.hid (bounds_i64 wa)
  have bb := Lib.hid (bounds_i64 wb)
  clear wa wb
  go_enter Try.func6, Try.ntmps6
  go_wp2_with fail
  refine (known_ok _).mono ?_
  rintro e w1 ⟨rfl, hb1⟩
  go_wp2_with fail
  refine (day_any _ _ ba.out.1 ba.out.2).mono ?_
  rintro e w' ⟨n, rfl, n1, n2, rfl⟩
  go_wp2_with fail
  refine (day_any _ _ bb.out.1 bb.out.2).mono ?_
  rintro e w' ⟨n', rfl, n1', n2', rfl⟩
  by_cases hv : 0 ≤ n ∧ n ≤ 73048 ∧ 0 ≤ n' ∧ n' ≤ 73048
  · obtain ⟨v, v1, v2, q1, q2, q3⟩ := months_all n n' hv.1 hv.2.1 hv.2.2.1 hv.2.2.2
    have Q1 := Lib.hid q1
    have Q2 := Lib.hid q2
    have Q3 := Lib.hid q3
    obtain ⟨x1, x2, x3, x4⟩ := hv
    clear q1 q2 q3
    go_wp2_with fail
    refine (Q1.out _).mono ?_
    rintro e w2 ⟨rfl, hb2⟩
    go_wp2_with fail
    refine (Q2.out _).mono ?_
    rintro e w3 ⟨rfl, hb3⟩
    go_wp2_with fail
    refine (rday_yes _ _ x1 x2).mono ?_
    rintro e w' ⟨rfl, rfl⟩
    go_wp2_with fail
    refine (rday_yes _ _ x3 x4).mono ?_
    rintro e w' ⟨rfl, rfl⟩
    go_wp2_with fail
    refine (Q3.out _).mono ?_
    rintro e w4 ⟨rfl, hb4⟩
    go_wp2_with fail
    go_ret
    exact ⟨by simp, bstep (bstep (bstep hb1 hb2) hb3) hb4⟩
  · have HV := Lib.hid hv
    clear hv
    by_cases c : 0 ≤ n ∧ n ≤ 73048
    · have c2 : n' < 0 ∨ 73048 < n' := by have := HV.out; omega
      have C := Lib.hid c
      have C2 := Lib.hid c2
      clear c c2
      go_wp2_with fail
      refine (mb_bad _ _ _ HV.out).mono ?_
      rintro e w2 ⟨rfl, hb2⟩
      go_wp2_with fail
      refine (mb_bad _ _ _ (by have := HV.out; omega)).mono ?_
      rintro e w3 ⟨rfl, hb3⟩
      go_wp2_with fail
      refine (rday_yes _ _ C.out.1 C.out.2).mono ?_
      rintro e w' ⟨rfl, rfl⟩
      go_wp2_with fail
      refine (rday_no _ _ C2.out).mono ?_
      rintro e w' ⟨rfl, rfl⟩
      go_wp2_with fail
      go_ret
      exact ⟨rfl, bstep (bstep hb1 hb2) hb3⟩
    · have c2 : n < 0 ∨ 73048 < n := by omega
      have C2 := Lib.hid c2
      clear c c2
      go_wp2_with fail
      refine (mb_bad _ _ _ HV.out).mono ?_
      rintro e w2 ⟨rfl, hb2⟩
      go_wp2_with fail
      refine (mb_bad _ _ _ (by have := HV.out; omega)).mono ?_
      rintro e w3 ⟨rfl, hb3⟩
      go_wp2_with fail
      refine (rday_no _ _ C2.out).mono ?_
      rintro e w' ⟨rfl, rfl⟩
      go_wp2_with fail
      go_ret
      exact ⟨rfl, bstep (bstep hb1 hb2) hb3⟩

set_option maxHeartbeats 1000000 in
theorem dateWeeks_walk (a : Int) (wa : (Lit.int .i64 a).wf = true) (w : World) :
    Calls Try.prog 7 #[.int .i64 a] w fun e w' => e = .returned (.bool true) ∧ Below w.heap.size w w' := by
  have ba := Lib.hid (bounds_i64 wa)
  clear wa
  go_enter Try.func7, Try.ntmps7
  go_wp2_with fail
  refine (known_ok _).mono ?_
  rintro e w1 ⟨rfl, hb1⟩
  go_wp2_with fail
  refine (day_any _ _ ba.out.1 ba.out.2).mono ?_
  rintro e w' ⟨n, rfl, n1, n2, rfl⟩
  by_cases hv : 0 ≤ n ∧ n ≤ 73048
  · obtain ⟨x1, x2⟩ := hv
    have md := Cal.mid_bd n x1 x2
    obtain ⟨Y, Y1, Y2, Y3, Y4⟩ := Cal.exists_year (Cal.mid n) (by omega) (by omega)
    obtain ⟨wk1, wk2⟩ := Cal.wk_bd Y3 Y4
    have q1 := fun W => week n Y W x1 x2 Y3 Y4 Y1 Y2
    have q2 := fun W => rweek n Y W x1 x2 Y3 Y4 Y1 Y2
    have ms := Cal.mid_succ n
    have Q1 := Lib.hid q1
    have Q2 := Lib.hid q2
    by_cases hl : n = 73048
    · subst hl
      clear q1 q2 ms md
      generalize Cal.wk Y (Cal.mid 73048) = K at *
      go_wp2_with fail
      refine (Q1.out _).mono ?_
      rintro e w' ⟨rfl, rfl⟩
      go_wp2_with fail
      refine (rday_yes _ _ (by decide) (by decide)).mono ?_
      rintro e w' ⟨rfl, rfl⟩
      go_wp2_with fail
      refine (Q2.out _).mono ?_
      rintro e w2 ⟨rfl, hb2⟩
      go_wp2_with fail
      refine (week_bad _ _ (by decide)).mono ?_
      rintro e w' ⟨rfl, rfl⟩
      go_wp2_with fail
      go_ret
      exact ⟨rfl, bstep hb1 hb2⟩
    · by_cases h6 : Cal.wd n = 6
      · rw [if_pos h6] at ms
        have md2 := Cal.mid_bd (n + 1) (by omega) (by omega)
        obtain ⟨U, U1, U2, U3, U4⟩ := Cal.exists_year (Cal.mid (n + 1)) (by omega) (by omega)
        have q3 := fun W => week (n + 1) U W (by omega) (by omega) U3 U4 U1 U2
        have hne := Cal.wk_next (u := U) Y3 Y4
        rw [← ms] at hne
        have q4 := fun W => wday n W x1 x2
        rw [h6] at q4
        have Q3 := Lib.hid q3
        have Q4 := Lib.hid q4
        clear q1 q2 ms md md2 q3 q4 U3 U4 Y3 Y4 h6
        generalize Cal.wk Y (Cal.mid n) = K at *
        generalize Cal.wk U (Cal.mid (n + 1)) = J at *
        by_cases hU : U = Y
        · have hJ : (J == K) = false := by rw [beq_eq_false_iff_ne]; intro h; exact hne ⟨hU, h⟩
          subst hU
          clear hne
          go_wp2_with fail
          refine (Q1.out _).mono ?_
          rintro e w' ⟨rfl, rfl⟩
          go_wp2_with fail
          refine (rday_yes _ _ x1 x2).mono ?_
          rintro e w' ⟨rfl, rfl⟩
          go_wp2_with fail
          refine (Q2.out _).mono ?_
          rintro e w2 ⟨rfl, hb2⟩
          go_wp2_with fail
          refine (Q3.out _).mono ?_
          rintro e w' ⟨rfl, rfl⟩
          go_wp2_with fail
          refine (Q4.out _).mono ?_
          rintro e w' ⟨rfl, rfl⟩
          go_wp2_with fail
          go_ret
          exact ⟨rfl, bstep hb1 hb2⟩
        · have hJ : (U == Y) = false := by rw [beq_eq_false_iff_ne]; exact hU
          clear hne
          go_wp2_with fail
          refine (Q1.out _).mono ?_
          rintro e w' ⟨rfl, rfl⟩
          go_wp2_with fail
          refine (rday_yes _ _ x1 x2).mono ?_
          rintro e w' ⟨rfl, rfl⟩
          go_wp2_with fail
          refine (Q2.out _).mono ?_
          rintro e w2 ⟨rfl, hb2⟩
          go_wp2_with fail
          refine (Q3.out _).mono ?_
          rintro e w' ⟨rfl, rfl⟩
          go_wp2_with fail
          refine (Q4.out _).mono ?_
          rintro e w' ⟨rfl, rfl⟩
          go_wp2_with fail
          go_ret
          exact ⟨rfl, bstep hb1 hb2⟩
      · rw [if_neg h6] at ms
        have q3 := fun W => week (n + 1) Y W (by omega) (by omega) (by rw [ms]; exact Y3) (by rw [ms]; exact Y4) Y1 Y2
        rw [ms] at q3
        have q4 := fun W => wday n W x1 x2
        have h6b : (Cal.wd n != 6) = true := by rw [bne_iff_ne]; exact h6
        have Q3 := Lib.hid q3
        have Q4 := Lib.hid q4
        clear q1 q2 ms md q3 q4 Y3 Y4 h6
        generalize Cal.wk Y (Cal.mid n) = K at *
        generalize Cal.wd n = D at *
        go_wp2_with fail
        refine (Q1.out _).mono ?_
        rintro e w' ⟨rfl, rfl⟩
        go_wp2_with fail
        refine (rday_yes _ _ x1 x2).mono ?_
        rintro e w' ⟨rfl, rfl⟩
        go_wp2_with fail
        refine (Q2.out _).mono ?_
        rintro e w2 ⟨rfl, hb2⟩
        go_wp2_with fail
        refine (Q3.out _).mono ?_
        rintro e w' ⟨rfl, rfl⟩
        go_wp2_with fail
        refine (Q4.out _).mono ?_
        rintro e w' ⟨rfl, rfl⟩
        go_wp2_with fail
        go_ret
        exact ⟨by simp, bstep hb1 hb2⟩
  · have hv2 : n < 0 ∨ 73048 < n := by omega
    have HV := Lib.hid hv2
    clear hv hv2
    go_wp2_with fail
    refine (week_bad _ _ HV.out).mono ?_
    rintro e w' ⟨rfl, rfl⟩
    go_wp2_with fail
    refine (rday_no _ _ HV.out).mono ?_
    rintro e w' ⟨rfl, rfl⟩
    go_wp2_with fail
    go_ret
    exact ⟨rfl, hb1⟩
end Go.Proofs.Ytajebigjcggnfaa
