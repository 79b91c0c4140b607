/- The walk of the law DateCivil. -/
import Derived.Test.YtajebigjcggnfaaKnown
import Derived.OpenShut
namespace Go.Proofs.Ytajebigjcggnfaa
open Go.RowKit
set_option linter.unusedVariables false
attribute [local go_sem ↓] Go.wp_at_zero Go.wp_at_succ

set_option maxRecDepth 100000 in
set_option maxHeartbeats 2000000 in
theorem dateCivil_walk (a : Int) (wa : (Lit.int .i64 a).wf = true) (w : World) :
    Calls Try.prog 3 #[.int .i64 a] w fun e w' => e = .returned (.bool true) ∧ Below w.heap.size w w' := by
  have ba := Lib.hid (bounds_i64 wa)
  clear wa
  go_enter Try.func3, Try.ntmps3
  go_wp2_with fail
  refine (known_ok _).mono ?_
  rintro e w1 ⟨rfl, hb1⟩
  go_wp2_with fail
  refine (day_any _ _ ba.out.1 ba.out.2).mono ?_
  rintro e w' ⟨n, rfl, n1, n2, rfl⟩
  have hs1 := hb1.size
  go_wp2_with fail
  have hA0 := At.new w1 3 #[Value.int IntKind.i64 a, Value.int IntKind.i64 n]
  have hB0 := hb1.alloc hs1 (Obj.cells #[Value.int IntKind.i64 a, Value.int IntKind.i64 n] 3)
  go_loopw [17] (fun t wr => ∃ k : Nat, k ≤ 2 ∧ t = .int .i64 (k : Int) ∧ Below w.heap.size w wr ∧ At wr w1.heap.size 3 #[Value.int IntKind.i64 a, Value.int IntKind.i64 n]) (fun t _ => 2 - (intOf t).toNat)
  case atStart => exact ⟨0, by omega, rfl, hB0, hA0⟩
  case round =>
    obtain ⟨k, hk, rfl, hB, hA⟩ := hrel
    clear hA0 hB0 hb1
    have hlt := hA.lt
    by_cases hend : k = 2
    · subst hend
      go_wp2_with fail
      go_ret
      exact ⟨rfl, hB⟩
    · obtain ⟨x, hx⟩ : ∃ x : Int, wr.cell? ⟨w1.heap.size, k, none⟩ = some (.int .i64 x) := by
        obtain rfl | rfl : k = 0 ∨ k = 1 := by omega
        · exact ⟨a, hA.cell 0⟩
        · exact ⟨n, hA.cell 1⟩
      have k2 : k < 2 := by omega
      have hs2 := hB.size
      clear hend
      by_cases hv : 0 ≤ x ∧ x ≤ 73048
      · obtain ⟨y, m, d, hd, hn⟩ := Cal.exists_date x hv.1 hv.2
        have HV := Lib.hid hv
        have HD := Lib.hid hd
        have HN := Lib.hid hn
        have q1 := fun W => from_ok y m d W hd
        rw [hn] at q1
        have Q1 := Lib.hid q1
        clear hv hd hn q1
        generalize hwd : Cal.wd x = D at *
        have HW := Lib.hid hwd
        clear hwd
        go_wp2_with fail
        refine (to_ok _ y m d _ HD.out HN.out).mono ?_
        rintro e w2 ⟨rfl, hb2⟩
        have hA2 := hA.below hb2 hlt
        have hB2 := bstep hB hb2
        clear hb2
        go_wp2_with fail
        refine (rday_yes _ _ HV.out.1 HV.out.2).mono ?_
        rintro e w' ⟨rfl, rfl⟩
        go_wp2_with fail
        refine (rto _ y m d _ HD.out HN.out).mono ?_
        rintro e w3 ⟨rfl, hb3⟩
        have hC3 := (At.new w2 26 #[.int .i64 y, .int .i64 m, .int .i64 d]).below hb3 (by simp)
        have hA3 := (hA2.alloc _).below hb3 (by simp; have := hA2.lt; omega)
        have hB3 := bstep (hB2.alloc hB2.size _) hb3
        obtain ⟨c0, c1, c2, -⟩ := hC3.three
        have hs3 := hB3.size
        have hz3 := hC3.lt
        clear hA2 hb3
        go_wp2_with fail
        refine (Q1.out _).mono ?_
        rintro e w4 ⟨rfl, hb4⟩
        clear c0 c1 c2
        have hC4 := (hC3.alloc _).below hb4 (by simp; have := hC3.lt; omega)
        have hR4 := (At.new w3 32 #[.int .i64 y, .int .i64 m, .int .i64 d]).below hb4 (by simp)
        have hA4 := (hA3.alloc _).below hb4 (by simp; have := hA3.lt; omega)
        have hB4 := bstep (hB3.alloc hs3 _) hb4
        obtain ⟨c0, c1, c2, -⟩ := hC4.three
        obtain ⟨r0, r1, r2, -⟩ := hR4.three
        clear hb4 hA3
        go_wp2_with fail
        refine (valid_yes _ _ HV.out.1 HV.out.2).mono ?_
        rintro e w' ⟨rfl, rfl⟩
        go_wp2_with fail
        refine (wday _ _ HV.out.1 HV.out.2).mono ?_
        rintro e w' ⟨rfl, rfl⟩
        rw [HW.out]
        go_wp2_with fail
        refine (rwday _ _ HV.out.1 HV.out.2).mono ?_
        rintro e w' ⟨rfl, rfl⟩
        rw [HW.out]
        go_wp2_with fail
        go_roundw
        case rel => exact ⟨k + 1, by omega, by go_num, hB4, hA4⟩
        case measure => simp [intOf]; omega
      · have hv2 : x < 0 ∨ 73048 < x := by omega
        have HV := Lib.hid hv2
        clear hv hv2
        go_wp2_with fail
        refine (to_no _ _ HV.out).mono ?_
        rintro e w2 ⟨rfl, hb2⟩
        have hA2 := hA.below hb2 hlt
        have hB2 := bstep hB hb2
        clear hb2
        go_wp2_with fail
        refine (rday_no _ _ HV.out).mono ?_
        rintro e w' ⟨rfl, rfl⟩
        go_wp2_with fail
        refine (valid_no _ _ HV.out).mono ?_
        rintro e w' ⟨rfl, rfl⟩
        go_wp2_with fail
        refine (wday_no _ _ HV.out).mono ?_
        rintro e w' ⟨rfl, rfl⟩
        go_wp2_with fail
        go_roundw
        case rel => exact ⟨k + 1, by omega, by go_num, hB2.alloc hB2.size _, hA2.alloc _⟩
        case measure => simp [intOf]; omega
end Go.Proofs.Ytajebigjcggnfaa
