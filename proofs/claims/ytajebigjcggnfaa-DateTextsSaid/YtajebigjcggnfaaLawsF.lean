/- The walk of the law DateTexts. -/
import Derived.Test.YtajebigjcggnfaaOrder
import Derived.OpenShut
namespace Go.Proofs.Ytajebigjcggnfaa
open Go.RowKit
set_option linter.unusedVariables false
attribute [local go_sem ↓] Go.wp_at_zero Go.wp_at_succ

set_option maxRecDepth 100000 in
set_option maxHeartbeats 2000000 in
theorem dateTexts_walk (a : Int) (wa : (Lit.int .i64 a).wf = true) (b : Int) (wb : (Lit.int .i64 b).wf = true) (w : World) :
    Calls Try.prog 8 #[.int .i64 a, .int .i64 b] w fun e w' => e = .returned (.bool true) ∧ Below w.heap.size w w' := by
  have ba := Lib.hid (bounds_i64 wa)
  have bb := Lib.hid (bounds_i64 wb)
  clear wa wb
  go_enter Try.func8, Try.ntmps8
  go_wp2_with fail
  refine (known_ok _).mono ?_
  rintro e w1 ⟨rfl, hb1⟩
  go_wp2_with fail
  refine (day_any _ _ ba.out.1 ba.out.2).mono ?_
  rintro e w' ⟨n, rfl, n1, n2, rfl⟩
  go_wp2_with fail
  refine (day_any _ _ bb.out.1 bb.out.2).mono ?_
  rintro e w' ⟨n', rfl, n1', n2', rfl⟩
  by_cases hv : 0 ≤ n ∧ n ≤ 73048
  · obtain ⟨y, m, d, hd, hn⟩ := Cal.exists_date n hv.1 hv.2
    have HV := Lib.hid hv
    have HD := Lib.hid hd
    have HN := Lib.hid hn
    by_cases hv' : 0 ≤ n' ∧ n' ≤ 73048
    · obtain ⟨y', m', d', hd', hn'⟩ := Cal.exists_date n' hv'.1 hv'.2
      have HV' := Lib.hid hv'
      have HD' := Lib.hid hd'
      have HN' := Lib.hid hn'
      have hbl := bl_dtext hd hd'
      rw [hn, hn'] at hbl
      have q := fun W => parse_fit ⟨(dtext y m d).toArray⟩ y m d n 0 W (dtext_fits y m d) (dtext_nAt hd).1 (dtext_nAt hd).2.1 (dtext_nAt hd).2.2 (fun W' => by have := from_ok y m d W' hd; rwa [hn] at this)
      have Q := Lib.hid q
      clear q hv hd hn hv' hd' hn'
      have q1 := fun W => format_ok n y m d W HD.out HN.out
      have q2 := fun W => format_ok n' y' m' d' W HD'.out HN'.out
      have q3 := fun W => rformat n y m d W HD.out HN.out
      have q4 := fun W => rformat n' y' m' d' W HD'.out HN'.out
      have Q1 := Lib.hid q1
      have Q2 := Lib.hid q2
      have Q3 := Lib.hid q3
      have Q4 := Lib.hid q4
      clear q1 q2 q3 q4
      generalize dtext y m d = S at *
      generalize dtext y' m' d' = T at *
      go_wp2_with fail
      refine (Q1.out _).mono ?_
      rintro e w2 ⟨rfl, hb2⟩
      go_wp2_with fail
      refine (Q2.out _).mono ?_
      rintro e w3 ⟨rfl, hb3⟩
      go_wp2_with fail
      refine (rday_yes _ _ HV.out.1 HV.out.2).mono ?_
      rintro e w' ⟨rfl, rfl⟩
      go_wp2_with fail
      refine (rday_yes _ _ HV'.out.1 HV'.out.2).mono ?_
      rintro e w' ⟨rfl, rfl⟩
      go_wp2_with fail
      refine (Q.out _).mono ?_
      rintro e w4 ⟨rfl, hb4⟩
      go_wp2_with fail
      refine (Q3.out _).mono ?_
      rintro e w5 ⟨rfl, hb5⟩
      go_wp2_with fail
      refine (Q4.out _).mono ?_
      rintro e w6 ⟨rfl, hb6⟩
      go_wp2_with fail
      go_ret
      exact ⟨by simp, bstep (bstep (bstep (bstep (bstep hb1 hb2) hb3) hb4) hb5) hb6⟩
    · have hv2 : n' < 0 ∨ 73048 < n' := by omega
      have HV' := Lib.hid hv2
      clear hv' hv2 hv hd hn
      go_wp2_with fail
      refine (format_ok _ y m d _ HD.out HN.out).mono ?_
      rintro e w2 ⟨rfl, hb2⟩
      go_wp2_with fail
      refine (format_bad _ _ HV'.out).mono ?_
      rintro e w3 ⟨rfl, hb3⟩
      go_wp2_with fail
      refine (rday_yes _ _ HV.out.1 HV.out.2).mono ?_
      rintro e w' ⟨rfl, rfl⟩
      go_wp2_with fail
      refine (rday_no _ _ HV'.out).mono ?_
      rintro e w' ⟨rfl, rfl⟩
      go_wp2_with fail
      refine (rday_yes _ _ HV.out.1 HV.out.2).mono ?_
      rintro e w' ⟨rfl, rfl⟩
      go_wp2_with fail
      refine (rday_no _ _ HV'.out).mono ?_
      rintro e w' ⟨rfl, rfl⟩
      go_wp2_with fail
      go_ret
      exact ⟨rfl, bstep (bstep hb1 hb2) hb3⟩
  · have hv2 : n < 0 ∨ 73048 < n := by omega
    have HV := Lib.hid hv2
    clear hv hv2
    by_cases hv' : 0 ≤ n' ∧ n' ≤ 73048
    · obtain ⟨y', m', d', hd', hn'⟩ := Cal.exists_date n' hv'.1 hv'.2
      have HV' := Lib.hid hv'
      have HD' := Lib.hid hd'
      have HN' := Lib.hid hn'
      clear hv' hd' hn'
      go_wp2_with fail
      refine (format_bad _ _ HV.out).mono ?_
      rintro e w2 ⟨rfl, hb2⟩
      go_wp2_with fail
      refine (format_ok _ y' m' d' _ HD'.out HN'.out).mono ?_
      rintro e w3 ⟨rfl, hb3⟩
      go_wp2_with fail
      refine (rday_no _ _ HV.out).mono ?_
      rintro e w' ⟨rfl, rfl⟩
      go_wp2_with fail
      refine (rday_no _ _ HV.out).mono ?_
      rintro e w' ⟨rfl, rfl⟩
      go_wp2_with fail
      refine (rday_yes _ _ HV'.out.1 HV'.out.2).mono ?_
      rintro e w' ⟨rfl, rfl⟩
      go_wp2_with fail
      go_ret
      exact ⟨rfl, bstep (bstep hb1 hb2) hb3⟩
    · have hv2 : n' < 0 ∨ 73048 < n' := by omega
      have HV' := Lib.hid hv2
      clear hv' hv2
      go_wp2_with fail
      refine (format_bad _ _ HV.out).mono ?_
      rintro e w2 ⟨rfl, hb2⟩
      go_wp2_with fail
      refine (format_bad _ _ HV'.out).mono ?_
      rintro e w3 ⟨rfl, hb3⟩
      go_wp2_with fail
      refine (rday_no _ _ HV.out).mono ?_
      rintro e w' ⟨rfl, rfl⟩
      go_wp2_with fail
      refine (rday_no _ _ HV.out).mono ?_
      rintro e w' ⟨rfl, rfl⟩
      go_wp2_with fail
      refine (rday_no _ _ HV'.out).mono ?_
      rintro e w' ⟨rfl, rfl⟩
      go_wp2_with fail
      go_ret
      exact ⟨rfl, bstep (bstep hb1 hb2) hb3⟩
end Go.Proofs.Ytajebigjcggnfaa
