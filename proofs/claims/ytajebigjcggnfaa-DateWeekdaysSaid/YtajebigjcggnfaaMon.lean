/- The walks of MonthsBetween and of the reference's AddMonths, Months, Week. -/
import Derived.Test.YtajebigjcggnfaaAdd
namespace Go.Proofs.Ytajebigjcggnfaa
open Go.RowKit
set_option linter.unusedVariables false
attribute [local go_sem ↓] Go.wp_at_zero Go.wp_at_succ

set_option maxHeartbeats 1000000 in
theorem mb_le (n n' y m d y' m' d' : Int) (w : World) (h : Cal.vld y m d) (hn : Cal.num y m d = n) (h' : Cal.vld y' m' d') (hn' : Cal.num y' m' d' = n') (hle : n ≤ n') :
    Calls Try.prog 28 #[.int .i64 n, .int .i64 n'] w fun e w' => e = .returned (.tuple #[.int .i64 (Cal.mon y m d y' m' d'), .int .i64 0]) ∧ Below w.heap.size w w' := by
  obtain ⟨i1, i2⟩ := Cal.idx_bd h
  obtain ⟨i1', i2'⟩ := Cal.idx_bd h'
  have hi := Cal.idx_le h h' (by rw [hn, hn']; exact hle)
  have e1 : (y' - y) * 12 + m' - m = Cal.idx y' m' - Cal.idx y m := by unfold Cal.idx; omega
  have em : Cal.mon y m d y' m' d' = if n' < Cal.tgt d (Cal.idx y' m') then Cal.idx y' m' - Cal.idx y m - 1 else Cal.idx y' m' - Cal.idx y m := by unfold Cal.mon; rw [hn']
  have ea := add_any n y m d (Cal.idx y' m' - Cal.idx y m)
  rw [show Cal.idx y m + (Cal.idx y' m' - Cal.idx y m) = Cal.idx y' m' from by omega] at ea
  have EA := Lib.hid ea
  have EM := Lib.hid em
  have HV := Lib.hid h
  have HV' := Lib.hid h'
  have HN := Lib.hid hn
  have HN' := Lib.hid hn'
  obtain ⟨v1, v2, v3, v4, v5, v6⟩ := h
  obtain ⟨v1', v2', v3', v4', v5', v6'⟩ := h'
  clear ea em hn hn'
  by_cases hc : n' < Cal.tgt d (Cal.idx y' m')
  all_goals
    go_enter Try.func28, Try.ntmps28
    go_wp2_with fail
    refine (to_ok _ y m d _ HV.out HN.out).mono ?_
    rintro e w1 ⟨rfl, hb⟩
    go_wp2_with fail
    refine (to_ok _ y' m' d' _ HV'.out HN'.out).mono ?_
    rintro e w2 ⟨rfl, hb2⟩
    have hA2 := (At.new w1 26 #[Value.int IntKind.i64 y, Value.int IntKind.i64 m, Value.int IntKind.i64 d]).below hb2 (by simp)
    obtain ⟨c0, c1, c2, f0, f1, f2⟩ := hA2.three
    have hs1 := hb.size
    have hs2 := hb2.size
    simp at hs2
    have hz : w1.heap.size < w2.heap.size := by omega
    have hB := (((bstep (Below.refl _ _) hb).alloc hb.size (Obj.cells #[Value.int IntKind.i64 y, Value.int IntKind.i64 m, Value.int IntKind.i64 d] 26)).trans (hb2.mono (by simp; omega))).alloc (by omega) (Obj.cells #[Value.int IntKind.i64 y', Value.int IntKind.i64 m', Value.int IntKind.i64 d'] 26)
    clear hb hb2
    go_wp2_with fail
    refine (EA.out _ HV.out HN.out (by omega) (by omega) (by omega) (by omega)).mono ?_
    rintro e w3 ⟨rfl, hb3⟩
    clear e1
    go_wp2_with fail
    go_ret2
    exact ⟨by rw [EM.out]; first | (rw [if_pos (by omega)]; rfl) | (rw [if_neg (by omega)]; rfl), hB.trans (hb3.mono (by simp; omega))⟩

set_option maxHeartbeats 1000000 in
theorem mb_gt (n n' y m d y' m' d' : Int) (w : World) (h : Cal.vld y m d) (hn : Cal.num y m d = n) (h' : Cal.vld y' m' d') (hn' : Cal.num y' m' d' = n') (hlt : n' < n) :
    Calls Try.prog 28 #[.int .i64 n, .int .i64 n'] w fun e w' => e = .returned (.tuple #[.int .i64 (-(Cal.mon y' m' d' y m d)), .int .i64 0]) ∧ Below w.heap.size w w' := by
  have mbd := Cal.mon_bd h' h (by rw [hn, hn']; omega)
  have HV := Lib.hid h
  have HV' := Lib.hid h'
  have HN := Lib.hid hn
  have HN' := Lib.hid hn'
  clear h h' hn hn'
  go_enter Try.func28, Try.ntmps28
  go_wp2_with fail
  refine (to_ok _ y m d _ HV.out HN.out).mono ?_
  rintro e w1 ⟨rfl, hb⟩
  go_wp2_with fail
  refine (to_ok _ y' m' d' _ HV'.out HN'.out).mono ?_
  rintro e w2 ⟨rfl, hb2⟩
  have hs1 := hb.size
  have hs2 := hb2.size
  simp at hs2
  have hB := (((bstep (Below.refl _ _) hb).alloc hb.size (Obj.cells #[Value.int IntKind.i64 y, Value.int IntKind.i64 m, Value.int IntKind.i64 d] 26)).trans (hb2.mono (by simp; omega))).alloc (by omega) (Obj.cells #[Value.int IntKind.i64 y', Value.int IntKind.i64 m', Value.int IntKind.i64 d'] 26)
  clear hb hb2
  go_wp2_with fail
  refine (mb_le _ _ _ _ _ _ _ _ _ HV'.out HN'.out HV.out HN.out (by omega)).mono ?_
  rintro e w3 ⟨rfl, hb3⟩
  go_wp2_with fail
  go_ret2
  exact ⟨rfl, hB.trans (hb3.mono (by simp; omega))⟩

set_option maxHeartbeats 1000000 in
theorem mb_bad (n n' : Int) (w : World) (h : ¬ (0 ≤ n ∧ n ≤ 73048 ∧ 0 ≤ n' ∧ n' ≤ 73048)) :
    Calls Try.prog 28 #[.int .i64 n, .int .i64 n'] w fun e w' => e = .returned (.tuple #[.int .i64 0, .int .i64 2]) ∧ Below w.heap.size w w' := by
  by_cases c : 0 ≤ n ∧ n ≤ 73048
  · obtain ⟨y, m, d, hv, hn⟩ := Cal.exists_date n c.1 c.2
    have HV := Lib.hid hv
    have HN := Lib.hid hn
    clear hv hn
    go_enter Try.func28, Try.ntmps28
    go_wp2_with fail
    refine (to_ok _ y m d _ HV.out HN.out).mono ?_
    rintro e w1 ⟨rfl, hb⟩
    go_wp2_with fail
    refine (to_no _ _ (by omega)).mono ?_
    rintro e w2 ⟨rfl, hb2⟩
    have hs1 := hb.size
    have hs2 := hb2.size
    simp at hs2
    have hB := (((bstep (Below.refl _ _) hb).alloc hb.size (Obj.cells #[Value.int IntKind.i64 y, Value.int IntKind.i64 m, Value.int IntKind.i64 d] 26)).trans (hb2.mono (by simp; omega))).alloc (by omega) (Obj.cells #[Value.int IntKind.i64 0, Value.int IntKind.i64 0, Value.int IntKind.i64 0] 26)
    clear hb hb2
    go_wp2_with fail
    go_ret2
    exact ⟨rfl, hB⟩
  · by_cases c' : 0 ≤ n' ∧ n' ≤ 73048
    · obtain ⟨y, m, d, hv, hn⟩ := Cal.exists_date n' c'.1 c'.2
      have HV := Lib.hid hv
      have HN := Lib.hid hn
      clear hv hn
      go_enter Try.func28, Try.ntmps28
      go_wp2_with fail
      refine (to_no _ _ (by omega)).mono ?_
      rintro e w1 ⟨rfl, hb⟩
      go_wp2_with fail
      refine (to_ok _ y m d _ HV.out HN.out).mono ?_
      rintro e w2 ⟨rfl, hb2⟩
      have hs1 := hb.size
      have hs2 := hb2.size
      simp at hs2
      have hB := (((bstep (Below.refl _ _) hb).alloc hb.size (Obj.cells #[Value.int IntKind.i64 0, Value.int IntKind.i64 0, Value.int IntKind.i64 0] 26)).trans (hb2.mono (by simp; omega))).alloc (by omega) (Obj.cells #[Value.int IntKind.i64 y, Value.int IntKind.i64 m, Value.int IntKind.i64 d] 26)
      clear hb hb2
      go_wp2_with fail
      go_ret2
      exact ⟨rfl, hB⟩
    · go_enter Try.func28, Try.ntmps28
      go_wp2_with fail
      refine (to_no _ _ (by omega)).mono ?_
      rintro e w1 ⟨rfl, hb⟩
      go_wp2_with fail
      refine (to_no _ _ (by omega)).mono ?_
      rintro e w2 ⟨rfl, hb2⟩
      have hs1 := hb.size
      have hs2 := hb2.size
      simp at hs2
      have hB := (((bstep (Below.refl _ _) hb).alloc hb.size (Obj.cells #[Value.int IntKind.i64 0, Value.int IntKind.i64 0, Value.int IntKind.i64 0] 26)).trans (hb2.mono (by simp; omega))).alloc (by omega) (Obj.cells #[Value.int IntKind.i64 0, Value.int IntKind.i64 0, Value.int IntKind.i64 0] 26)
      clear hb hb2
      go_wp2_with fail
      go_ret2
      exact ⟨rfl, hB⟩

/-- what the reference's AddMonths gives -/
def RAdd (d a : Int) (w : World) (e : Ending) (w' : World) : Prop :=
  (0 ≤ a ∧ a ≤ 2399 → e = .returned (.tuple #[.int .i64 (Cal.tgt d a), .bool true])) ∧ (¬ (0 ≤ a ∧ a ≤ 2399) → e = .returned (.tuple #[.int .i64 0, .bool false])) ∧ Below w.heap.size w w'

set_option maxHeartbeats 2000000 in
/-- the reference's AddMonths -/
theorem radd_any (n y m d k : Int) (w : World) (h : Cal.vld y m d) (hn : Cal.num y m d = n) (k1 : -3000 ≤ k) (k2 : k ≤ 3000) :
    Calls Try.prog 37 #[.int .i64 n, .int .i64 k] w (RAdd d (Cal.idx y m + k) w) := by
  obtain ⟨i1, i2⟩ := Cal.idx_bd h
  have tv := Cal.tgt_vld (d := d) (a := Cal.idx y m + k) h.2.2.2.2.1
  have T := Lib.hid tv
  have HV := Lib.hid h
  have HN := Lib.hid hn
  obtain ⟨v1, v2, v3, v4, v5, v6⟩ := h
  have ei : Cal.idx y m = (y - 2000) * 12 + m - 1 := rfl
  have EI := Lib.hid ei
  clear hn tv ei
  go_enter Try.func37, Try.ntmps37
  go_wp2_with fail
  refine (rto _ y m d _ HV.out HN.out).mono ?_
  rintro e w1 ⟨rfl, hb⟩
  go_wp2_with fail
  have hs1 := hb.size
  have hB := (bstep (Below.refl _ _) hb).alloc hb.size (Obj.cells #[Value.int IntKind.i64 y, Value.int IntKind.i64 m, Value.int IntKind.i64 d] 32)
  clear hb
  go_loopw [1] (fun t wr => ∃ r Y M : Int, t = .int .i64 r ∧ (r = 0 ∨ (0 < r ∧ 0 < k) ∨ (r < 0 ∧ k = r)) ∧ -3000 ≤ r ∧ r ≤ 3000 ∧ 1 ≤ M ∧ M ≤ 12 ∧ (Y - 2000) * 12 + M - 1 + r = Cal.idx y m + k ∧ Below w.heap.size w wr ∧ At wr w1.heap.size 32 #[.int .i64 Y, .int .i64 M, .int .i64 d]) (fun t _ => (intOf t).toNat)
  case atStart => exact ⟨k, y, m, rfl, by omega, by omega, by omega, by omega, by omega, by rw [EI.out], hB, At.new _ _ _⟩
  case round =>
    obtain ⟨r, Y, M, rfl, r1, r2, r3, M1, M2, hE, hB2, hA⟩ := hrel
    clear hB
    obtain ⟨c0, c1, c2, f0, f1, f2⟩ := hA.three
    have y1 : -1000 ≤ Y := by omega
    have y2 : Y ≤ 4000 := by omega
    have HE := Lib.hid hE
    clear hE
    by_cases hr : 0 < r
    · have hk : 0 < k := by omega
      by_cases hm : M = 12
      · subst hm
        go_wp2_with fail
        go_roundw
        case rel => exact ⟨r - 1, Y + 1, 1, rfl, by omega, by omega, by omega, by omega, by omega, by have := HE.out; omega, by repeat (first | exact hB2 | refine Below.setCell ?_ (by simp; omega) _), by simpa using ((hA.set 1 (.int .i64 13)).set 0 (.int .i64 (Y + 1))).set 1 (.int .i64 1)⟩
        case measure => simp [intOf]; omega
      · have hm13 : (M + 1 == 13) = false := by rw [beq_eq_false_iff_ne]; omega
        go_wp2_with fail
        go_roundw
        case rel => exact ⟨r - 1, Y, M + 1, rfl, by omega, by omega, by omega, by omega, by omega, by have := HE.out; omega, by repeat (first | exact hB2 | refine Below.setCell ?_ (by simp; omega) _), hA.set 1 (.int .i64 (M + 1))⟩
        case measure => simp [intOf]; omega
    · go_wp2_with fail
      go_loopw [1] (fun t wr => ∃ r Y M : Int, t = .int .i64 r ∧ r ≤ 0 ∧ -3000 ≤ r ∧ 1 ≤ M ∧ M ≤ 12 ∧ (Y - 2000) * 12 + M - 1 + r = Cal.idx y m + k ∧ Below w.heap.size w wr ∧ At wr w1.heap.size 32 #[.int .i64 Y, .int .i64 M, .int .i64 d]) (fun t _ => (-(intOf t)).toNat)
      case atStart => exact ⟨r, Y, M, rfl, by omega, by omega, by omega, by omega, HE.out, hB2, hA⟩
      case round =>
        clear c0 c1 c2 f0 f1 f2 hA hB2 hr r1 r2 r3 M1 M2 HE y1 y2 Y M
        rename_i r0
        obtain ⟨r, Y, M, rfl, r1, r2, M1, M2, hE, hB2, hA⟩ := hrel
        obtain ⟨c0, c1, c2, f0, f1, f2⟩ := hA.three
        have y1 : -1000 ≤ Y := by omega
        have y2 : Y ≤ 4000 := by omega
        have HE := Lib.hid hE
        clear hE
        by_cases hr : r < 0
        · by_cases hm : M = 1
          · subst hm
            go_wp2_with fail
            go_roundw
            case rel => exact ⟨r + 1, Y - 1, 12, rfl, by omega, by omega, by omega, by omega, by have := HE.out; omega, by repeat (first | exact hB2 | refine Below.setCell ?_ (by simp; omega) _), by simpa using ((hA.set 1 (.int .i64 0)).set 0 (.int .i64 (Y - 1))).set 1 (.int .i64 12)⟩
            case measure => simp [intOf]; omega
          · have hm13 : (M - 1 == 0) = false := by rw [beq_eq_false_iff_ne]; omega
            go_wp2_with fail
            go_roundw
            case rel => exact ⟨r + 1, Y, M - 1, rfl, by omega, by omega, by omega, by omega, by have := HE.out; omega, by repeat (first | exact hB2 | refine Below.setCell ?_ (by simp; omega) _), hA.set 1 (.int .i64 (M - 1))⟩
            case measure => simp [intOf]; omega
        · obtain rfl : r = 0 := by omega
          have hE := HE.out
          by_cases hin : 2000 ≤ Y ∧ Y ≤ 2199
          · have ha : 0 ≤ Cal.idx y m + k ∧ Cal.idx y m + k ≤ 2399 := by omega
            have t0 := T.out ha.1 ha.2
            have TT : Cal.num (2000 + (Cal.idx y m + k) / 12) ((Cal.idx y m + k) % 12 + 1) (min d (Cal.len (2000 + (Cal.idx y m + k) / 12) ((Cal.idx y m + k) % 12 + 1))) = Cal.tgt d (Cal.idx y m + k) := rfl
            rw [show 2000 + (Cal.idx y m + k) / 12 = Y from by omega, show (Cal.idx y m + k) % 12 + 1 = M from by omega] at t0 TT
            have hA0 := Lib.hid ha
            have T0 := Lib.hid t0
            have HT := Lib.hid TT
            obtain ⟨in1, in2⟩ := hin
            have lb := Cal.len_bd Y M M1 M2
            have hmin : (if Cal.len Y M < d then Cal.len Y M else d) = min d (Cal.len Y M) := by split <;> omega
            have hne : (Cal.len Y M == 0) = false := by rw [beq_eq_false_iff_ne]; omega
            clear hE TT t0 ha
            generalize min d (Cal.len Y M) = D at *
            go_wp2_with (go_at_call 27; refine (rlen _ _ _ (by omega) (by omega) (by omega) (by omega)).mono ?_; rintro e w' ⟨rfl, rfl⟩)
            go_region_with (first | (go_at_call 27; refine (rlen _ _ _ (by omega) (by omega) (by omega) (by omega)).mono ?_; rintro e w' ⟨rfl, rfl⟩))
            all_goals
              clear hmin
              go_wp2_with fail
              refine (rfrom _ _ _ _ T0.out).mono ?_
              rintro e w3 ⟨rfl, hb3⟩
              rw [HT.out]
              go_wp2_with fail
              go_ret2
              refine ⟨fun _ => rfl, fun hh => absurd hA0.out hh, Below.trans ?_ (hb3.mono (by simp; have := hB2.size; omega))⟩
              repeat (first | exact hB2 | refine Below.setCell ?_ (by simp; omega) _ | refine Below.drew ?_ | refine below_drewN ?_ _)
          · have ha : ¬ (0 ≤ Cal.idx y m + k ∧ Cal.idx y m + k ≤ 2399) := by omega
            have hA0 := Lib.hid ha
            clear hE ha
            go_wp2_with (go_at_call 27; refine (rlen_no _ _ _ (by omega)).mono ?_; rintro e w' ⟨rfl, rfl⟩)
            go_ret2
            exact ⟨fun hh => absurd hh hA0.out, fun _ => rfl, hB2⟩

set_option maxHeartbeats 1000000 in
theorem radd_far (n k : Int) (w : World) (h : k < -3000 ∨ 3000 < k) :
    Calls Try.prog 37 #[.int .i64 n, .int .i64 k] w fun e w' => e = .returned (.tuple #[.int .i64 0, .bool false]) ∧ w = w' := by
  rcases h with h | h
  all_goals
    go_enter Try.func37, Try.ntmps37
    go_wp2_with fail
    go_ret2
    exact ⟨rfl, rfl⟩

set_option maxHeartbeats 1000000 in
/-- the reference's Months, from a day to one that is not before it -/
theorem rmon_le (n n' y m d y' m' d' : Int) (w : World) (h : Cal.vld y m d) (hn : Cal.num y m d = n) (h' : Cal.vld y' m' d') (hn' : Cal.num y' m' d' = n') (hle : n ≤ n') :
    Calls Try.prog 29 #[.int .i64 n, .int .i64 n'] w fun e w' => e = .returned (.int .i64 (Cal.mon y m d y' m' d')) ∧ Below w.heap.size w w' := by
  have hle' : Cal.num y m d ≤ Cal.num y' m' d' := by rw [hn, hn']; exact hle
  obtain ⟨b1, b2⟩ := Cal.mon_bd h h' hle'
  have hst := Lib.hid (Cal.mon_stop h h' hle')
  have hgo := Lib.hid (Cal.mon_go h h')
  have hra := Cal.mon_range (y := y) (m := m) (d := d) h'
  obtain ⟨i1, i2⟩ := Cal.idx_bd h
  have HV := Lib.hid h
  have HN := Lib.hid hn
  have HN' := Lib.hid hn'
  clear hn hn' hle' h h'
  generalize hM : Cal.mon y m d y' m' d' = M at *
  clear hM
  go_enter Try.func29, Try.ntmps29
  go_wp2_with fail
  go_loopw [5] (fun t wr => ∃ j : Int, 0 ≤ j ∧ j ≤ M ∧ t = .int .i64 j ∧ Below w.heap.size w wr) (fun t _ => (3000 - intOf t).toNat)
  case atStart => exact ⟨0, by omega, b1, rfl, Below.refl _ _⟩
  case round =>
    obtain ⟨j, j1, j2, rfl, hB⟩ := hrel
    go_wp2_with fail
    refine (radd_any n y m d (j + 1) _ HV.out HN.out (by omega) (by omega)).mono ?_
    rintro e w2 ⟨g1, g2, hb⟩
    by_cases hj : j < M
    · have hlow : Cal.tgt d (Cal.idx y m + (j + 1)) ≤ n' := by have := hgo.out (j + 1) (by omega) (by omega); rw [HN'.out] at this; exact this
      obtain rfl := g1 (by omega)
      clear g2 g1
      go_wp2_with fail
      go_roundw
      case rel => exact ⟨j + 1, by omega, by omega, rfl, bstep hB hb⟩
      case measure => simp [intOf]; omega
    · obtain rfl : j = M := by omega
      by_cases hr : Cal.idx y m + (j + 1) ≤ 2399
      · have hhigh : n' < Cal.tgt d (Cal.idx y m + (j + 1)) := by have := hst.out (j + 1) (by omega) (by omega); rw [HN'.out] at this; exact this
        obtain rfl := g1 (by omega)
        clear g2 g1
        go_wp2_with fail
        go_ret
        exact ⟨rfl, bstep hB hb⟩
      · obtain rfl := g2 (by omega)
        clear g2 g1
        go_wp2_with fail
        go_ret
        exact ⟨rfl, bstep hB hb⟩

set_option maxHeartbeats 1000000 in
theorem rmon_gt (n n' y m d y' m' d' : Int) (w : World) (h : Cal.vld y m d) (hn : Cal.num y m d = n) (h' : Cal.vld y' m' d') (hn' : Cal.num y' m' d' = n') (hlt : n' < n) :
    Calls Try.prog 29 #[.int .i64 n, .int .i64 n'] w fun e w' => e = .returned (.int .i64 (-(Cal.mon y' m' d' y m d))) ∧ Below w.heap.size w w' := by
  have mbd := Cal.mon_bd h' h (by rw [hn, hn']; omega)
  have HV := Lib.hid h
  have HV' := Lib.hid h'
  have HN := Lib.hid hn
  have HN' := Lib.hid hn'
  clear h h' hn hn'
  go_enter Try.func29, Try.ntmps29
  go_wp2_with fail
  refine (rmon_le _ _ _ _ _ _ _ _ _ HV'.out HN'.out HV.out HN.out (by omega)).mono ?_
  rintro e w3 ⟨rfl, hb3⟩
  go_wp2_with fail
  go_ret
  exact ⟨by simp, hb3⟩

set_option maxHeartbeats 1000000 in
/-- the reference's Week -/
theorem rweek (n Y : Int) (w : World) (h0 : 0 ≤ n) (h1 : n ≤ 73048) (hy : Cal.ys Y ≤ Cal.mid n) (hy2 : Cal.mid n < Cal.ys (Y + 1)) (hY1 : 1999 ≤ Y) (hY2 : Y ≤ 2200) :
    Calls Try.prog 31 #[.int .i64 n] w fun e w' => e = .returned (.tuple #[.int .i64 Y, .int .i64 (Cal.wk Y (Cal.mid n))]) ∧ Below w.heap.size w w' := by
  have m1 := Cal.mid_bd n h0 h1
  have mn := Cal.mid_neg n h0
  have mb := Cal.mid_big n h1
  have w1 : 0 ≤ Cal.wd n ∧ Cal.wd n ≤ 6 := by unfold Cal.wd; omega
  have e1 : n - Cal.wd n + 3 = Cal.mid n := rfl
  have MN := Lib.hid mn
  have MB := Lib.hid mb
  clear mn mb
  go_enter Try.func31, Try.ntmps31
  by_cases c1 : Cal.mid n < 0
  · have hm := MN.out c1
    have hY : Y = 1999 := Cal.year_of hy hy2 (by rw [hm, Cal.ys_1999]; omega) (by rw [hm, show (1999 : Int) + 1 = 2000 from rfl, Cal.ys_2000]; omega)
    have HM := Lib.hid hm
    have HY := Lib.hid hY
    clear hm hY
    go_wp2_with (go_at_call 21; refine (rwday _ _ (by omega) (by omega)).mono ?_; rintro e w' ⟨rfl, rfl⟩)
    go_ret2
    exact ⟨by rw [HY.out, HM.out]; simp [Cal.wk, Cal.ys_1999], Below.refl _ _⟩
  · by_cases c2 : 73048 < Cal.mid n
    · have hm := MB.out c2
      have hY : Y = 2200 := Cal.year_of hy hy2 (by rw [hm, Cal.ys_2200]; omega) (by rw [hm, show (2200 : Int) + 1 = 2201 from rfl, Cal.ys_2201]; omega)
      have HM := Lib.hid hm
      have HY := Lib.hid hY
      clear hm hY
      go_wp2_with (go_at_call 21; refine (rwday _ _ (by omega) (by omega)).mono ?_; rintro e w' ⟨rfl, rfl⟩)
      go_ret2
      exact ⟨by rw [HY.out, HM.out]; simp [Cal.wk, Cal.ys_2200], Below.refl _ _⟩
    · obtain ⟨yy, mm, dd, hv, hnum⟩ := Cal.exists_date (Cal.mid n) (by omega) (by omega)
      have hb := Cal.num_bd hv
      rw [hnum] at hb
      obtain rfl : yy = Y := Cal.year_of hb.1 hb.2 hy hy2
      have hj : Cal.vld yy 1 1 := ⟨hv.1, hv.2.1, by omega, by omega, by omega, by have := Cal.len_bd yy 1 (by omega) (by omega); omega⟩
      have HJ := Lib.hid hj
      have HV := Lib.hid hv
      have HN := Lib.hid hnum
      obtain ⟨v1, v2, -⟩ := hv
      have yb := Cal.ys_bd yy (by omega) (by omega)
      have jn : Cal.num yy 1 1 = Cal.ys yy := by unfold Cal.num; rw [Cal.cum_one]; omega
      have JN := Lib.hid jn
      clear jn hj hnum
      go_wp2_with (go_at_call 21; refine (rwday _ _ (by omega) (by omega)).mono ?_; rintro e w' ⟨rfl, rfl⟩)
      refine (rto _ _ _ _ _ HV.out HN.out).mono ?_
      rintro e w2 ⟨rfl, hb2⟩
      have hs2 := hb2.size
      go_wp2_with fail
      refine (rfrom _ _ _ _ HJ.out).mono ?_
      rintro e w3 ⟨rfl, hb3⟩
      rw [JN.out]
      have hA3 := (At.new w2 32 #[Value.int IntKind.i64 yy, Value.int IntKind.i64 mm, Value.int IntKind.i64 dd]).below hb3 (by simp)
      obtain ⟨c0', c1', c2', f0', f1', f2'⟩ := hA3.three
      go_wp2_with fail
      go_ret2
      exact ⟨rfl, ((bstep (Below.refl _ _) hb2).alloc hs2 _).trans (hb3.mono (by simp; omega))⟩
end Go.Proofs.Ytajebigjcggnfaa
