/- The walks of the laws DateMonthLengths and DateFromCivil. -/
import Derived.Test.YtajebigjcggnfaaKnown
import Derived.OpenShut
namespace Go.Proofs.Ytajebigjcggnfaa
open Go.RowKit
set_option linter.unusedVariables false
attribute [local go_sem ↓] Go.wp_at_zero Go.wp_at_succ

theorem wf_i64 {n : Int} (h : (Lit.int .i64 n).wf = true) : -9223372036854775808 ≤ n ∧ n ≤ 9223372036854775807 := by
  have h2 := bounds_i64 h
  omega

set_option maxHeartbeats 1000000 in
theorem dateMonthLengths_walk (y : Int) (wy : (Lit.int .i64 y).wf = true) (m : Int) (wm : (Lit.int .i64 m).wf = true) (w : World) :
    Calls Try.prog 5 #[.int .i64 y, .int .i64 m] w fun e w' => e = .returned (.bool true) ∧ Below w.heap.size w w' := by
  clear wy wm
  by_cases hv : 2000 ≤ y ∧ y ≤ 2199 ∧ 1 ≤ m ∧ m ≤ 12
  · have HV := Lib.hid hv
    clear hv
    go_enter Try.func5, Try.ntmps5
    go_wp2_with fail
    refine (known_ok _).mono ?_
    rintro e w1 ⟨rfl, hb1⟩
    go_wp2_with fail
    refine (leap_any _ _).mono ?_
    rintro e w' ⟨rfl, rfl⟩
    go_wp2_with fail
    refine (rleap_any _ _).mono ?_
    rintro e w' ⟨rfl, rfl⟩
    go_wp2_with fail
    refine (dim _ _ _ HV.out.1 HV.out.2.1 HV.out.2.2.1 HV.out.2.2.2).mono ?_
    rintro e w2 ⟨rfl, hb2⟩
    go_wp2_with fail
    refine (rlen _ _ _ HV.out.1 HV.out.2.1 HV.out.2.2.1 HV.out.2.2.2).mono ?_
    rintro e w' ⟨rfl, rfl⟩
    go_wp2_with fail
    go_ret
    exact ⟨rfl, bstep hb1 hb2⟩
  · have HV := Lib.hid hv
    clear hv
    go_enter Try.func5, Try.ntmps5
    go_wp2_with fail
    refine (known_ok _).mono ?_
    rintro e w1 ⟨rfl, hb1⟩
    go_wp2_with fail
    refine (leap_any _ _).mono ?_
    rintro e w' ⟨rfl, rfl⟩
    go_wp2_with fail
    refine (rleap_any _ _).mono ?_
    rintro e w' ⟨rfl, rfl⟩
    go_wp2_with fail
    refine (dim_no _ _ _ HV.out).mono ?_
    rintro e w' ⟨rfl, rfl⟩
    go_wp2_with fail
    refine (rlen_no _ _ _ HV.out).mono ?_
    rintro e w' ⟨rfl, rfl⟩
    go_wp2_with fail
    go_ret
    exact ⟨rfl, hb1⟩

set_option maxHeartbeats 1000000 in
theorem dateFromCivil_walk (y : Int) (wy : (Lit.int .i64 y).wf = true) (m : Int) (wm : (Lit.int .i64 m).wf = true) (d : Int) (wd : (Lit.int .i64 d).wf = true) (w : World) :
    Calls Try.prog 4 #[.agg #[.int .i64 y, .int .i64 m, .int .i64 d]] w fun e w' => e = .returned (.bool true) ∧ Below w.heap.size w w' := by
  clear wy wm wd
  by_cases hv : Cal.vld y m d
  · go_enter Try.func4, Try.ntmps4
    go_wp2_with fail
    refine (known_ok _).mono ?_
    rintro e w1 ⟨rfl, hb1⟩
    have hA1 := (At.new w 26 #[.int .i64 y, .int .i64 m, .int .i64 d]).below hb1 (by simp)
    have hB1 := bstep ((Below.refl _ _).alloc (Nat.le_refl _) _) hb1
    obtain ⟨c0, c1, c2, -⟩ := hA1.three
    clear hb1
    go_wp2_with fail
    refine (from_ok _ _ _ _ hv).mono ?_
    rintro e w2 ⟨rfl, hb2⟩
    have hA2 := hA1.below hb2 hA1.lt
    have hB2 := bstep hB1 hb2
    have hs2 := hb2.size
    clear c0 c1 c2 hb2
    obtain ⟨c0, c1, c2, -⟩ := hA2.three
    go_wp2_with fail
    refine (rvalid_yes _ _ _ _ hv).mono ?_
    rintro e w3 ⟨rfl, hb3⟩
    have hC3 := (At.new w2 32 #[.int .i64 y, .int .i64 m, .int .i64 d]).below hb3 (by simp)
    have hB3 := bstep (hB2.alloc (by have := hB2.size; omega) _) hb3
    obtain ⟨k0, k1, k2, -⟩ := hC3.three
    clear hb3 c0 c1 c2
    go_wp2_with fail
    refine (rfrom _ _ _ _ hv).mono ?_
    rintro e w4 ⟨rfl, hb4⟩
    go_wp2_with fail
    go_ret
    exact ⟨rfl, bstep hB3 hb4⟩
  · go_enter Try.func4, Try.ntmps4
    go_wp2_with fail
    refine (known_ok _).mono ?_
    rintro e w1 ⟨rfl, hb1⟩
    have hA1 := (At.new w 26 #[.int .i64 y, .int .i64 m, .int .i64 d]).below hb1 (by simp)
    have hB1 := bstep ((Below.refl _ _).alloc (Nat.le_refl _) _) hb1
    obtain ⟨c0, c1, c2, -⟩ := hA1.three
    clear hb1
    go_wp2_with fail
    refine (from_no _ _ _ _ hv).mono ?_
    rintro e w2 ⟨rfl, hb2⟩
    have hA2 := hA1.below hb2 hA1.lt
    have hB2 := bstep hB1 hb2
    clear c0 c1 c2 hb2
    obtain ⟨c0, c1, c2, -⟩ := hA2.three
    go_wp2_with fail
    refine (rvalid_no _ _ _ _ hv).mono ?_
    rintro e w3 ⟨rfl, hb3⟩
    have hB3 := bstep (hB2.alloc (by have := hB2.size; omega) _) hb3
    go_wp2_with fail
    go_ret
    exact ⟨rfl, hB3⟩
end Go.Proofs.Ytajebigjcggnfaa
