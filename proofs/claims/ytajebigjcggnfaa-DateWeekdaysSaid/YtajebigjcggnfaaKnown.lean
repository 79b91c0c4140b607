/- The walks of known (the document's examples) and of day. -/
import Derived.Test.YtajebigjcggnfaaMon
import Derived.Test.YtajebigjcggnfaaClock
namespace Go.Proofs.Ytajebigjcggnfaa
open Go.RowKit
set_option linter.unusedVariables false
attribute [local go_sem ↓] Go.wp_at_zero Go.wp_at_succ

theorem v1 : Cal.vld 2026 11 16 := by unfold Cal.vld; decide
theorem v2 : Cal.vld 2024 1 31 := by unfold Cal.vld; decide
theorem v3 : Cal.vld 2024 2 29 := by unfold Cal.vld; decide
theorem v4 : Cal.vld 2025 2 28 := by unfold Cal.vld; decide
theorem n1 : Cal.num 2026 11 16 = 9816 := by decide
theorem n2 : Cal.num 2024 1 31 = 8796 := by decide
theorem n3 : Cal.num 2024 2 29 = 8825 := by decide
theorem n4 : Cal.num 2025 2 28 = 9190 := by decide
/-- the text 2024-01-31 -/
def sJan : ByteArray := ⟨#[50, 48, 50, 52, 45, 48, 49, 45, 51, 49]⟩
theorem okc_of (c f : UInt8) (h : (if f = 48 then decide (48 ≤ (c.toNat : Int) ∧ (c.toNat : Int) ≤ 57) else decide (c = f)) = true) : okc c f := by
  unfold okc
  split at h
  · rename_i e; rw [if_pos e]; simpa using h
  · rename_i e; rw [if_neg e]; simpa using h
theorem fJan : Fits sJan f10 := by
  refine ⟨rfl, fun j hj hj' => ?_⟩
  have h : j < 10 := hj
  obtain rfl | rfl | rfl | rfl | rfl | rfl | rfl | rfl | rfl | rfl : j = 0 ∨ j = 1 ∨ j = 2 ∨ j = 3 ∨ j = 4 ∨ j = 5 ∨ j = 6 ∨ j = 7 ∨ j = 8 ∨ j = 9 := by omega
  all_goals exact okc_of _ _ rfl

set_option maxRecDepth 100000 in
set_option maxHeartbeats 2000000 in
theorem known_ok (w : World) : Calls Try.prog 13 #[] w fun e w' => e = .returned (.bool true) ∧ Below w.heap.size w w' := by
  have a1 := fun W => from_ok 2026 11 16 W v1
  rw [n1] at a1
  have a2 := fun W => week 9816 2026 W (by decide) (by decide) (by decide) (by decide) (by decide) (by decide)
  rw [show Cal.wk 2026 (Cal.mid 9816) = 47 from by decide] at a2
  have a3 := fun W => format_ok 9816 2026 11 16 W v1 n1
  rw [show (dtext 2026 11 16).toArray = #[50, 48, 50, 54, 45, 49, 49, 45, 49, 54] from by decide +kernel] at a3
  have a4 := fun W => parse_fit sJan 2024 1 31 8796 0 W fJan (by decide +kernel) (by decide +kernel) (by decide +kernel) (fun W' => by have := from_ok 2024 1 31 W' v2; rwa [n2] at this)
  have a5 := fun W => add_any 8796 2024 1 31 1 W v2 n2 (by decide) (by decide) (by decide) (by decide)
  rw [show Cal.tgt 31 (Cal.idx 2024 1 + 1) = 8825 from by decide] at a5
  have a6 := fun W => add_any 8796 2024 1 31 13 W v2 n2 (by decide) (by decide) (by decide) (by decide)
  rw [show Cal.tgt 31 (Cal.idx 2024 1 + 13) = 9190 from by decide] at a6
  have a7 := fun W => format_ok 9190 2025 2 28 W v4 n4
  rw [show (dtext 2025 2 28).toArray = #[50, 48, 50, 53, 45, 48, 50, 45, 50, 56] from by decide +kernel] at a7
  have a8 := fun W => mb_le 8796 8825 2024 1 31 2024 2 29 W v2 n2 v3 n3 (by decide)
  rw [show Cal.mon 2024 1 31 2024 2 29 = 1 from by decide] at a8
  have a9 := fun W => wday 9816 W (by decide) (by decide)
  rw [show Cal.wd 9816 = 0 from by decide] at a9
  have A1 := Lib.hid a1; have A2 := Lib.hid a2; have A3 := Lib.hid a3; have A4 := Lib.hid a4; have A5 := Lib.hid a5; have A6 := Lib.hid a6; have A7 := Lib.hid a7; have A8 := Lib.hid a8; have A9 := Lib.hid a9
  clear a1 a2 a3 a4 a5 a6 a7 a8 a9
  go_enter Try.func13, Try.ntmps13
  go_wp2_with fail
  refine (A1.out _).mono ?_
  rintro e w1 ⟨rfl, hb1⟩
  go_wp2_with fail
  refine (A2.out _).mono ?_
  rintro e w' ⟨rfl, rfl⟩
  go_wp2_with fail
  refine (A3.out _).mono ?_
  rintro e w2 ⟨rfl, hb2⟩
  go_wp2_with fail
  refine (A4.out _).mono ?_
  rintro e w3 ⟨rfl, hb3⟩
  go_wp2_with fail
  refine (A5.out _).mono ?_
  rintro e w4 ⟨rfl, hb4⟩
  go_wp2_with fail
  refine (A6.out _).mono ?_
  rintro e w5 ⟨rfl, hb5⟩
  go_wp2_with fail
  refine (A7.out _).mono ?_
  rintro e w6 ⟨rfl, hb6⟩
  go_wp2_with fail
  refine (A8.out _).mono ?_
  rintro e w7 ⟨rfl, hb7⟩
  go_wp2_with fail
  refine (A9.out _).mono ?_
  rintro e w' ⟨rfl, rfl⟩
  go_wp2_with fail
  go_ret
  exact ⟨rfl, bstep (bstep (bstep (bstep (bstep (bstep hb1 hb2) hb3) hb4) hb5) hb6) hb7⟩

theorem u64_rem (n : Int) : -3 ≤ wrap64 ((IntKind.u64.wrap n).tmod 73049) ∧ wrap64 ((IntKind.u64.wrap n).tmod 73049) ≤ 73060 := by
  have h : 0 ≤ IntKind.u64.wrap n := by rw [IntKind.wrap_u64]; exact Int.emod_nonneg _ (by decide)
  generalize IntKind.u64.wrap n = m at *
  rw [Int.tmod_eq_emod_of_nonneg h, IntWalk.wrap64_in _ (by omega)]
  omega
/-- what day gives: a number near the days -/
def DayP (w : World) (e : Ending) (w' : World) : Prop := ∃ x : Int, e = .returned (.int .i64 x) ∧ -3 ≤ x ∧ x ≤ 73060 ∧ w = w'
set_option maxHeartbeats 400000 in
theorem day_any (n : Int) (w : World) (h0 : -9223372036854775808 ≤ n) (h1 : n ≤ 9223372036854775807) :
    Calls Try.prog 14 #[.int .i64 n] w (DayP w) := by
  by_cases a : -3 ≤ n
  · by_cases b : n ≤ 73060
    · go_enter Try.func14, Try.ntmps14
      go_wp2_with fail
      go_ret
      exact ⟨n, rfl, a, b, rfl⟩
    · go_enter Try.func14, Try.ntmps14
      go_wp2_with fail
      go_ret
      exact ⟨_, rfl, by omega, by omega, rfl⟩
  · go_enter Try.func14, Try.ntmps14
    go_wp2_with fail
    go_ret
    exact ⟨_, rfl, (u64_rem n).1, (u64_rem n).2, rfl⟩
end Go.Proofs.Ytajebigjcggnfaa
