/- The walks of AddMonths, EndOfMonth, MonthsBetween, ISOWeek and of the reference's AddMonths, Months, Week. -/
import Derived.Test.YtajebigjcggnfaaCivil
import Derived.Deep.RegionLaw
import Derived.Deep.RegionWith
namespace Go.Proofs.Ytajebigjcggnfaa
open Go.RowKit
set_option linter.unusedVariables false
attribute [local go_sem ↓] Go.wp_at_zero Go.wp_at_succ

set_option maxHeartbeats 1000000 in
theorem add_any (n y m d k : Int) (w : World) (h : Cal.vld y m d) (hn : Cal.num y m d = n) (k1 : -2400 ≤ k) (k2 : k ≤ 2400) (a1 : 0 ≤ Cal.idx y m + k) (a2 : Cal.idx y m + k ≤ 2399) :
    Calls Try.prog 35 #[.int .i64 n, .int .i64 k] w fun e w' => e = .returned (.tuple #[.int .i64 (Cal.tgt d (Cal.idx y m + k)), .int .i64 0]) ∧ Below w.heap.size w w' := by
  obtain ⟨i1, i2⟩ := Cal.idx_bd h
  have tv := Cal.tgt_vld (d := d) h.2.2.2.2.1 a1 a2
  have T := Lib.hid tv
  have V := h
  obtain ⟨v1, v2, v3, v4, v5, v6⟩ := h
  have e1 : (y - 2000) * 12 + m - 1 = Cal.idx y m := rfl
  have hl := Cal.len_bd (2000 + (Cal.idx y m + k) / 12) ((Cal.idx y m + k) % 12 + 1) (by omega) (by omega)
  have HV := Lib.hid V
  have HN := Lib.hid hn
  clear V hn tv
  go_enter Try.func35, Try.ntmps35
  go_wp2_with fail
  refine (to_ok _ y m d _ HV.out HN.out).mono ?_
  rintro e w1 ⟨rfl, hb⟩
  go_wp2_with fail
  clear e1
  generalize hY : 2000 + (Cal.idx y m + k) / 12 = Y at *
  generalize hM : (Cal.idx y m + k) % 12 + 1 = M at *
  have hmin : (if Cal.len Y M < d then Cal.len Y M else d) = min d (Cal.len Y M) := by split <;> omega
  have TT : Cal.num Y M (min d (Cal.len Y M)) = Cal.tgt d (Cal.idx y m + k) := by unfold Cal.tgt; rw [hY, hM]
  have HT := Lib.hid TT
  clear TT hY hM
  generalize min d (Cal.len Y M) = D at *
  obtain ⟨t1, t2, t3, t4, t5, t6⟩ := T.out
  go_region_with (first | (go_at_call 26; refine (dim _ _ _ (by omega) (by omega) (by omega) (by omega)).mono ?_; rintro e w2 ⟨rfl, hb2⟩; obtain ⟨hc2, hf2⟩ := bcell hb2))
  all_goals
    have hB := bstep (((bstep (Below.refl _ _) hb).alloc hb.size (Obj.cells #[Value.int IntKind.i64 Y, Value.int IntKind.i64 M, Value.int IntKind.i64 d] 26)).drew) hb2
    obtain ⟨hc2, hf2⟩ := bcell hb2
    have hs1 := hb.size
    have hs2 := hb2.size
    simp at hs2
    clear hb2 hmin
    go_wp2_with fail
    refine (from_ok _ _ _ _ T.out).mono ?_
    rintro e w3 ⟨rfl, hb3⟩
    rw [HT.out]
    go_wp2_with fail
    go_ret2
    exact ⟨rfl, (hB.setCell (by simp; omega) _).trans (hb3.mono (by simp; omega))⟩

set_option maxHeartbeats 1000000 in
theorem add_bad (n k : Int) (w : World) (h : n < 0 ∨ 73048 < n) :
    Calls Try.prog 35 #[.int .i64 n, .int .i64 k] w fun e w' => e = .returned (.tuple #[.int .i64 0, .int .i64 2]) ∧ Below w.heap.size w w' := by
  go_enter Try.func35, Try.ntmps35
  go_wp2_with fail
  refine (to_no _ _ h).mono ?_
  rintro e w1 ⟨rfl, hb⟩
  go_wp2_with fail
  go_ret2
  exact ⟨rfl, (bstep (Below.refl _ _) hb).alloc hb.size _⟩

set_option maxHeartbeats 1000000 in
theorem add_no (n y m d k : Int) (w : World) (h : Cal.vld y m d) (hn : Cal.num y m d = n) (hk : ¬ (-2400 ≤ k ∧ k ≤ 2400 ∧ 0 ≤ Cal.idx y m + k ∧ Cal.idx y m + k ≤ 2399)) :
    Calls Try.prog 35 #[.int .i64 n, .int .i64 k] w fun e w' => e = .returned (.tuple #[.int .i64 0, .int .i64 2]) ∧ Below w.heap.size w w' := by
  obtain ⟨i1, i2⟩ := Cal.idx_bd h
  have V := h
  obtain ⟨v1, v2, v3, v4, v5, v6⟩ := h
  have e1 : (y - 2000) * 12 + m - 1 = Cal.idx y m := rfl
  have HV := Lib.hid V
  have HN := Lib.hid hn
  clear V hn
  by_cases c1 : k < -2400
  · clear hk
    go_enter Try.func35, Try.ntmps35
    go_wp2_with fail
    refine (to_ok _ y m d _ HV.out HN.out).mono ?_
    rintro e w1 ⟨rfl, hb⟩
    go_wp2_with fail
    go_ret2
    exact ⟨rfl, (bstep (Below.refl _ _) hb).alloc hb.size _⟩
  by_cases c2 : 2400 < k
  · clear hk
    go_enter Try.func35, Try.ntmps35
    go_wp2_with fail
    refine (to_ok _ y m d _ HV.out HN.out).mono ?_
    rintro e w1 ⟨rfl, hb⟩
    go_wp2_with fail
    go_ret2
    exact ⟨rfl, (bstep (Below.refl _ _) hb).alloc hb.size _⟩
  by_cases c3 : Cal.idx y m + k < 0
  · clear hk
    go_enter Try.func35, Try.ntmps35
    go_wp2_with fail
    refine (to_ok _ y m d _ HV.out HN.out).mono ?_
    rintro e w1 ⟨rfl, hb⟩
    go_wp2_with fail
    go_ret2
    exact ⟨rfl, (bstep (Below.refl _ _) hb).alloc hb.size _⟩
  have c4 : 2399 < Cal.idx y m + k := by omega
  clear hk
  go_enter Try.func35, Try.ntmps35
  go_wp2_with fail
  refine (to_ok _ y m d _ HV.out HN.out).mono ?_
  rintro e w1 ⟨rfl, hb⟩
  go_wp2_with fail
  clear e1
  have hY : ¬ 2000 + (Cal.idx y m + k) / 12 ≤ 2199 := by omega
  generalize 2000 + (Cal.idx y m + k) / 12 = Y at *
  generalize (Cal.idx y m + k) % 12 + 1 = M at *
  have d1 : 0 < d := by omega
  go_region_with (first | (go_at_call 26; refine (dim_no _ _ _ (by omega)).mono ?_; rintro e w2 ⟨rfl, rfl⟩))
  all_goals
    have hs1 := hb.size
    go_wp2_with fail
    refine (from_no _ _ _ _ (by intro hh; have := hh.2.2.2.2; omega)).mono ?_
    rintro e w3 ⟨rfl, hb3⟩
    go_wp2_with fail
    go_ret2
    refine ⟨rfl, Below.trans ?_ (hb3.mono (by simp; omega))⟩
    refine (((bstep (Below.refl _ _) hb).alloc hs1 _).drew).trans (Below.refl _ _)

set_option maxHeartbeats 1000000 in
theorem eom (n y m d : Int) (w : World) (h : Cal.vld y m d) (hn : Cal.num y m d = n) :
    Calls Try.prog 36 #[.int .i64 n] w fun e w' => e = .returned (.tuple #[.int .i64 (Cal.num y m (Cal.len y m)), .int .i64 0]) ∧ Below w.heap.size w w' := by
  have V := h
  obtain ⟨n1, n2⟩ := Cal.num_range h
  rw [hn] at n1 n2
  obtain ⟨v1, v2, v3, v4, v5, v6⟩ := h
  have hl := Cal.len_bd y m v3 v4
  have HV := Lib.hid V
  have HN := Lib.hid hn
  clear V hn
  go_enter Try.func36, Try.ntmps36
  go_wp2_with fail
  refine (to_ok _ y m d _ HV.out HN.out).mono ?_
  rintro e w1 ⟨rfl, hb⟩
  have hB := (bstep (Below.refl _ _) hb).alloc hb.size (Obj.cells #[Value.int IntKind.i64 y, Value.int IntKind.i64 m, Value.int IntKind.i64 d] 26)
  have hs1 := hb.size
  clear hb
  have hn2 := HN.out
  have q1 : IntKind.i64.wrap (n + Cal.len y m) = n + Cal.len y m := IntWalk.i64_in _ (by omega)
  have q2 : IntKind.i64.wrap (n + Cal.len y m - d) = n + Cal.len y m - d := IntWalk.i64_in _ (by omega)
  clear hn2
  go_wp2_with fail
  go_region_held3 (fun w' => w'.cell? ⟨w1.heap.size, 0, none⟩ = some (.int .i64 y) ∧ w'.cell? ⟨w1.heap.size, 1, none⟩ = some (.int .i64 m) ∧ w'.cell? ⟨w1.heap.size, 2, none⟩ = some (.int .i64 d)) (go_keep)
    (first | (go_at_call 26; refine (dim _ _ _ (by omega) (by omega) (by omega) (by omega)).mono ?_; rintro e w2 ⟨rfl, hb2⟩; obtain ⟨hc, hf⟩ := bcell hb2))
  go_wp2_with fail
  go_ret2
  exact ⟨by simp; have := HN.out; unfold Cal.num at *; omega, (hB.drew).trans (hb2.mono (by simp; omega))⟩
set_option maxHeartbeats 1000000 in
theorem eom_bad (n : Int) (w : World) (h : n < 0 ∨ 73048 < n) :
    Calls Try.prog 36 #[.int .i64 n] w fun e w' => e = .returned (.tuple #[.int .i64 0, .int .i64 2]) ∧ Below w.heap.size w w' := by
  go_enter Try.func36, Try.ntmps36
  go_wp2_with fail
  refine (to_no _ _ h).mono ?_
  rintro e w1 ⟨rfl, hb⟩
  go_wp2_with fail
  go_ret2
  exact ⟨rfl, (bstep (Below.refl _ _) hb).alloc hb.size _⟩

set_option maxHeartbeats 1000000 in
theorem week (n Y : Int) (w : World) (h0 : 0 ≤ n) (h1 : n ≤ 73048) (hy : Cal.ys Y ≤ Cal.mid n) (hy2 : Cal.mid n < Cal.ys (Y + 1)) (hY1 : 1999 ≤ Y) (hY2 : Y ≤ 2200) :
    Calls Try.prog 30 #[.int .i64 n] w fun e w' => e = .returned (.tuple #[.int .i64 Y, .int .i64 (Cal.wk Y (Cal.mid n)), .int .i64 0]) ∧ w = w' := by
  have m1 := Cal.mid_bd n h0 h1
  have w1 : 0 ≤ Cal.wd n ∧ Cal.wd n ≤ 6 := by unfold Cal.wd; omega
  have e1 : n - Cal.wd n + 3 = Cal.mid n := rfl
  go_enter Try.func30, Try.ntmps30
  go_wp2_with (first | (go_at_call 17; refine (valid_yes _ _ (by omega) (by omega)).mono ?_; rintro e w' ⟨rfl, rfl⟩) | (go_at_call 18; refine (wday _ _ (by omega) (by omega)).mono ?_; rintro e w' ⟨rfl, rfl⟩))
  clear e1
  generalize ht : Cal.mid n = t at *
  have HT := Lib.hid ht
  clear ht
  go_loop [6] (fun t6 => ∃ y : Int, 1999 ≤ y ∧ y ≤ 2200 ∧ Cal.ys y ≤ t ∧ t6 = .int .i64 y) (fun t6 => (2201 - intOf t6).toNat)
  case atStart => exact ⟨1999, by omega, by omega, by rw [Cal.ys_1999]; omega, rfl⟩
  case round =>
    obtain ⟨y, y1, y2, y3, rfl⟩ := hrel
    by_cases hc : Cal.ys (y + 1) ≤ t
    · have hy4 : y < 2200 := by
        by_cases a : y < 2200
        · exact a
        · have := Cal.ys_mono 2201 (y + 1) (by omega); rw [Cal.ys_2201] at this; omega
      go_wp2_with (go_at_call 44; refine (ystart _ _ (by omega) (by omega)).mono ?_; rintro e w' ⟨rfl, rfl⟩)
      go_round
      case rel => exact ⟨y + 1, by omega, by omega, hc, rfl⟩
      case measure => simp [intOf]; omega
    · obtain rfl : y = Y := Cal.year_of y3 (by omega) hy hy2
      have yb := Cal.ys_bd y (by omega) (by omega)
      go_wp2_with (go_at_call 44; refine (ystart _ _ (by omega) (by omega)).mono ?_; rintro e w' ⟨rfl, rfl⟩)
      go_ret3
      exact ⟨by rw [HT.out]; rfl, rfl⟩
set_option maxHeartbeats 1000000 in
theorem week_bad (n : Int) (w : World) (h : n < 0 ∨ 73048 < n) :
    Calls Try.prog 30 #[.int .i64 n] w fun e w' => e = .returned (.tuple #[.int .i64 0, .int .i64 0, .int .i64 2]) ∧ w = w' := by
  go_enter Try.func30, Try.ntmps30
  go_wp2_with (go_at_call 17; refine (valid_no _ _ h).mono ?_; rintro e w' ⟨rfl, rfl⟩)
  go_ret3
  exact ⟨rfl, rfl⟩
end Go.Proofs.Ytajebigjcggnfaa
