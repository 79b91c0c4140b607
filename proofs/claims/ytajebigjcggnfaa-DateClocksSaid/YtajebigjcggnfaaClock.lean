/- The walks of ParseClock, FormatClock and CompareClock, and of the reference's ParseClock and FormatClock. -/
import Derived.Test.YtajebigjcggnfaaParse
namespace Go.Proofs.Ytajebigjcggnfaa
open Go.RowKit
set_option linter.unusedVariables false
attribute [local go_sem ↓] Go.wp_at_zero Go.wp_at_succ

set_option maxHeartbeats 1000000 in
theorem pclock_nf (s : ByteArray) (w : World) (hs : s.size ≤ maxLen) (hf : ¬ Fits s f16) :
    Calls Try.prog 39 #[.string s] w fun e w' => e = .returned (.tuple #[.agg #[.int .i64 0, .int .i64 0], .int .i64 3]) ∧ Below w.heap.size w w' := by
  go_enter Try.func39, Try.ntmps39
  go_wp2_with fail
  refine (fields_any s f16 _ hs (by decide)).mono ?_
  rintro e w1 ⟨-, h2, hb⟩
  obtain rfl := h2 hf
  obtain ⟨hc, hf1⟩ := bcell hb
  go_wp2_with fail
  refine bodyPost_ret (v := .tuple #[.agg #[.int .i64 0, .int .i64 0], .int .i64 3]) (by simp [results, Try.results39, go_sem, hc]) rfl ⟨rfl, ?_⟩
  repeat (first | exact bstep ((Below.refl _ _).alloc (Nat.le_refl _) _) hb | refine Below.setCell ?_ (by first | omega | simp) _)

set_option maxHeartbeats 2000000 in
theorem pclock_fit (s : ByteArray) (Y M D h mi : Int) (w : World) (hf : Fits s f16) (hY : nAt s 0 4 = Y) (hM : nAt s 5 2 = M) (hD : nAt s 8 2 = D) (hh : nAt s 11 2 = h) (hm : nAt s 14 2 = mi) (hv : ¬ Cal.vld Y M D) :
    Calls Try.prog 39 #[.string s] w fun e w' => e = .returned (.tuple #[.agg #[.int .i64 0, .int .i64 0], .int .i64 28]) ∧ Below w.heap.size w w' := by
  obtain ⟨hs, d1, d2, d3, d4, d5, -⟩ := fits16 hf
  have HS := Lib.hid hs
  have H1 := Lib.hid d1
  have H2 := Lib.hid d2
  have H3 := Lib.hid d3
  have HY := Lib.hid hY
  have HM := Lib.hid hM
  have HD := Lib.hid hD
  clear hs d1 d2 d3 d4 d5 hY hM hD hh hm
  have hB0 : Below w.heap.size w (w.alloc (.cells #[.int .i64 0, .int .i64 0] 56)) := (Below.refl _ _).alloc (Nat.le_refl _) _
  go_enter Try.func39, Try.ntmps39
  go_wp2_with fail
  refine (fields_any s f16 _ (by rw [HS.out]; decide) (by decide)).mono ?_
  rintro e w1 ⟨h1, -, hb⟩
  obtain ⟨rfl, hA⟩ := h1 hf
  have hB1 := bstep hB0 hb
  obtain ⟨hc, hf1⟩ := bcell hb
  have hs1 := hb.size
  simp at hs1
  have c0 := hA.cell 0
  simp at c0
  have C0 := Lib.hid c0
  have hAc := (At.new w 56 #[.int .i64 0, .int .i64 0]).below hb (by simp)
  clear h1 hA c0 hb hB0 hc hf1
  go_wp2_with fail
  refine (clos_any s _ 0 4 Y _ C0.out HY.out (by decide) (by decide) (by decide) (by rw [HS.out]; decide) (by rw [HS.out]; decide) H1.out).mono ?_
  rintro e w' ⟨rfl, rfl⟩
  go_wp2_with fail
  refine (clos_any s _ 5 2 M _ C0.out HM.out (by decide) (by decide) (by decide) (by rw [HS.out]; decide) (by rw [HS.out]; decide) H2.out).mono ?_
  rintro e w' ⟨rfl, rfl⟩
  go_wp2_with fail
  refine (clos_any s _ 8 2 D _ C0.out HD.out (by decide) (by decide) (by decide) (by rw [HS.out]; decide) (by rw [HS.out]; decide) H3.out).mono ?_
  rintro e w' ⟨rfl, rfl⟩
  go_wp2_with fail
  refine (from_no _ _ _ _ hv).mono ?_
  rintro e w2 ⟨rfl, hb2⟩
  have hB2 := bstep hB1 hb2
  have hA2 := hAc.below hb2 (by omega)
  have k0 := hA2.cell 0
  have k1 := hA2.cell 1
  simp at k0 k1
  have g0 := hA2.frozen 0
  have g1 := hA2.frozen 1
  go_wp2_with fail
  refine bodyPost_ret (v := .tuple #[.agg #[.int .i64 0, .int .i64 0], .int .i64 28]) (by simp [results, Try.results39, go_sem, k0, k1]) rfl ⟨rfl, ?_⟩
  repeat (first | exact hB2 | refine Below.setCell ?_ (by first | omega | simp) _)

/-- what ParseClock gives at a valid date -/
def PClock (n h mi : Int) (w : World) (e : Ending) (w' : World) : Prop :=
  (h ≤ 23 ∧ mi ≤ 59 → e = .returned (.tuple #[.agg #[.int .i64 n, .int .i64 (60 * h + mi)], .int .i64 0])) ∧ (¬ (h ≤ 23 ∧ mi ≤ 59) → e = .returned (.tuple #[.agg #[.int .i64 0, .int .i64 0], .int .i64 2])) ∧ Below w.heap.size w w'

set_option maxHeartbeats 2000000 in
theorem pclock_ok (s : ByteArray) (Y M D h mi : Int) (w : World) (hf : Fits s f16) (hY : nAt s 0 4 = Y) (hM : nAt s 5 2 = M) (hD : nAt s 8 2 = D) (hh : nAt s 11 2 = h) (hm : nAt s 14 2 = mi) (hv : Cal.vld Y M D) :
    Calls Try.prog 39 #[.string s] w (PClock (Cal.num Y M D) h mi w) := by
  obtain ⟨hs, d1, d2, d3, d4, d5, -⟩ := fits16 hf
  have b4 := nAt_bd2 (s := s) (a := 11) (by omega) d4
  have b5 := nAt_bd2 (s := s) (a := 14) (by omega) d5
  rw [hh] at b4
  rw [hm] at b5
  have HS := Lib.hid hs
  have H1 := Lib.hid d1
  have H2 := Lib.hid d2
  have H3 := Lib.hid d3
  have H4 := Lib.hid d4
  have H5 := Lib.hid d5
  have HY := Lib.hid hY
  have HM := Lib.hid hM
  have HD := Lib.hid hD
  have HH := Lib.hid hh
  have HMI := Lib.hid hm
  clear hs d1 d2 d3 d4 d5 hY hM hD hh hm
  have hB0 : Below w.heap.size w (w.alloc (.cells #[.int .i64 0, .int .i64 0] 56)) := (Below.refl _ _).alloc (Nat.le_refl _) _
  go_enter Try.func39, Try.ntmps39
  go_wp2_with fail
  refine (fields_any s f16 _ (by rw [HS.out]; decide) (by decide)).mono ?_
  rintro e w1 ⟨h1, -, hb⟩
  obtain ⟨rfl, hA⟩ := h1 hf
  have hB1 := bstep hB0 hb
  have hs1 := hb.size
  have hA1 := hA.lt
  simp at hs1
  have c0 := hA.cell 0
  simp at c0
  have C0 := Lib.hid c0
  have hAc := (At.new w 56 #[.int .i64 0, .int .i64 0]).below hb (by simp)
  clear h1 c0 hb hB0
  go_wp2_with fail
  refine (clos_any s _ 0 4 Y _ C0.out HY.out (by decide) (by decide) (by decide) (by rw [HS.out]; decide) (by rw [HS.out]; decide) H1.out).mono ?_
  rintro e w' ⟨rfl, rfl⟩
  go_wp2_with fail
  refine (clos_any s _ 5 2 M _ C0.out HM.out (by decide) (by decide) (by decide) (by rw [HS.out]; decide) (by rw [HS.out]; decide) H2.out).mono ?_
  rintro e w' ⟨rfl, rfl⟩
  go_wp2_with fail
  refine (clos_any s _ 8 2 D _ C0.out HD.out (by decide) (by decide) (by decide) (by rw [HS.out]; decide) (by rw [HS.out]; decide) H3.out).mono ?_
  rintro e w' ⟨rfl, rfl⟩
  go_wp2_with fail
  refine (from_ok _ _ _ _ hv).mono ?_
  rintro e w2 ⟨rfl, hb2⟩
  have hB2 := bstep hB1 hb2
  have hA2 := hAc.below hb2 (by omega)
  have c1 := (hA.below hb2 hA1).cell 0
  simp at c1
  have C1 := Lib.hid c1
  have k0 := hA2.cell 0
  have k1 := hA2.cell 1
  simp at k0 k1
  have g0 := hA2.frozen 0
  have g1 := hA2.frozen 1
  clear c1 hb2 hA2 hA hA1 hAc
  go_wp2_with fail
  refine (clos_any s _ 11 2 h _ C1.out HH.out (by decide) (by decide) (by decide) (by rw [HS.out]; decide) (by rw [HS.out]; decide) H4.out).mono ?_
  rintro e w' ⟨rfl, rfl⟩
  go_wp2_with fail
  refine (clos_any s _ 14 2 mi _ C1.out HMI.out (by decide) (by decide) (by decide) (by rw [HS.out]; decide) (by rw [HS.out]; decide) H5.out).mono ?_
  rintro e w' ⟨rfl, rfl⟩
  by_cases x1 : 23 < h
  · go_wp2_with fail
    refine bodyPost_ret (v := .tuple #[.agg #[.int .i64 0, .int .i64 0], .int .i64 2]) (by simp [results, Try.results39, go_sem, k0, k1]) rfl ⟨fun hh => absurd hh (by omega), fun _ => rfl, ?_⟩
    repeat (first | exact hB2 | refine Below.setCell ?_ (by first | omega | simp) _)
  · by_cases x2 : 59 < mi
    · go_wp2_with fail
      refine bodyPost_ret (v := .tuple #[.agg #[.int .i64 0, .int .i64 0], .int .i64 2]) (by simp [results, Try.results39, go_sem, k0, k1]) rfl ⟨fun hh => absurd hh (by omega), fun _ => rfl, ?_⟩
      repeat (first | exact hB2 | refine Below.setCell ?_ (by first | omega | simp) _)
    · go_wp2_with fail
      refine bodyPost_ret (v := .tuple #[.agg #[.int .i64 (Cal.num Y M D), .int .i64 (60 * h + mi)], .int .i64 0]) (by simp [results, Try.results39, go_sem, k0, k1]) rfl ⟨fun _ => rfl, fun hh => absurd (by omega) hh, ?_⟩
      repeat (first | exact hB2 | refine Below.setCell ?_ (by first | omega | simp) _)

/-- the order of two points in time -/
def cmpV (a b c d : Int) : Int := if a < c ∨ (a = c ∧ b < d) then -1 else if a = c ∧ b = d then 0 else 1
theorem cmpV_lt {a b c d : Int} (h : a < c ∨ (a = c ∧ b < d)) : cmpV a b c d = -1 := by unfold cmpV; rw [if_pos h]
theorem cmpV_eq {a b c d : Int} (h : a = c) (h2 : b = d) : cmpV a b c d = 0 := by unfold cmpV; rw [if_neg (by omega), if_pos ⟨h, h2⟩]
theorem cmpV_gt {a b c d : Int} (h : ¬ (a < c ∨ (a = c ∧ b < d))) (h2 : ¬ (a = c ∧ b = d)) : cmpV a b c d = 1 := by unfold cmpV; rw [if_neg h, if_neg h2]

set_option maxHeartbeats 1000000 in
theorem compare_any (a b c d : Int) (w : World) :
    Calls Try.prog 42 #[.agg #[.int .i64 a, .int .i64 b], .agg #[.int .i64 c, .int .i64 d]] w fun e w' => e = .returned (.int .i64 (cmpV a b c d)) ∧ Below w.heap.size w w' := by
  go_enter Try.func42, Try.ntmps42
  go_wp2_with fail
  all_goals
    go_ret
    refine ⟨ret_int ?_, by repeat (first | exact Below.refl _ _ | refine Below.alloc ?_ (by simp) _)⟩
    first
      | (rw [cmpV_lt (by omega)]; done)
      | (rw [cmpV_eq (by omega) (by omega)]; done)
      | (rw [cmpV_gt (by omega) (by omega)]; done)

/-- the text of a point in time -/
def ctext (y m d mi : Int) : List UInt8 := dtext y m d ++ [32] ++ Dig.dg (mi / 60) 2 ++ [58] ++ Dig.dg (mi % 60) 2

set_option maxHeartbeats 1000000 in
theorem fclock_bad (n mi : Int) (w : World) (h : n < 0 ∨ 73048 < n) :
    Calls Try.prog 41 #[.agg #[.int .i64 n, .int .i64 mi]] w fun e w' => e = .returned (.tuple #[.string ⟨#[]⟩, .int .i64 2]) ∧ Below w.heap.size w w' := by
  go_enter Try.func41, Try.ntmps41
  go_wp2_with fail
  refine (format_bad _ _ h).mono ?_
  rintro e w1 ⟨rfl, hb⟩
  go_wp2_with fail
  go_ret2
  exact ⟨rfl, bstep ((Below.refl _ _).alloc (Nat.le_refl _) _) hb⟩

set_option maxHeartbeats 1000000 in
theorem fclock_min (n y m d mi : Int) (w : World) (h : Cal.vld y m d) (hn : Cal.num y m d = n) (hm : mi < 0 ∨ 1439 < mi) :
    Calls Try.prog 41 #[.agg #[.int .i64 n, .int .i64 mi]] w fun e w' => e = .returned (.tuple #[.string ⟨#[]⟩, .int .i64 2]) ∧ Below w.heap.size w w' := by
  have HN := Lib.hid hn
  clear hn
  rcases hm with hm | hm
  all_goals
    go_enter Try.func41, Try.ntmps41
    go_wp2_with fail
    refine (format_ok _ y m d _ h HN.out).mono ?_
    rintro e w1 ⟨rfl, hb⟩
    have hA := (At.new w 56 #[.int .i64 n, .int .i64 mi]).below hb (by simp)
    have c1 := hA.cell 1
    simp at c1
    go_wp2_with fail
    go_ret2
    exact ⟨rfl, bstep ((Below.refl _ _).alloc (Nat.le_refl _) _) hb⟩

theorem dtext_length (y m d : Int) : (dtext y m d).length = 10 := by simp [dtext, Dig.dg_length]

set_option maxHeartbeats 2000000 in
theorem fclock_ok (n y m d mi : Int) (w : World) (h : Cal.vld y m d) (hn : Cal.num y m d = n) (hm0 : 0 ≤ mi) (hm1 : mi ≤ 1439) :
    Calls Try.prog 41 #[.agg #[.int .i64 n, .int .i64 mi]] w fun e w' => e = .returned (.tuple #[.string ⟨(ctext y m d mi).toArray⟩, .int .i64 0]) ∧ Below w.heap.size w w' := by
  have HN := Lib.hid hn
  clear hn
  have hlen := Lib.hid (dtext_length y m d)
  go_enter Try.func41, Try.ntmps41
  go_wp2_with fail
  refine (format_ok _ y m d _ h HN.out).mono ?_
  rintro e w1 ⟨rfl, hb⟩
  have hA := (At.new w 56 #[.int .i64 n, .int .i64 mi]).below hb (by simp)
  have hB := bstep ((Below.refl _ _).alloc (Nat.le_refl _) _) hb
  have hs1 := hA.lt
  have c1 := hA.cell 1
  simp at c1
  clear hb
  obtain ⟨u0, w2, hcv, ho2, hb2⟩ := conv_bytes w1 w1.heap.size (dtext y m d) (by rw [hlen.out]; unfold maxLen; omega) (Nat.le_refl _)
  have hA2 := hA.below hb2 hs1
  have hB2 := bstep hB hb2
  have hs2 := hb2.size
  go_wp2_with (at_builtin; refine wpList_append_byte rfl _ _ rfl w1.heap.size u0 _ rfl (ho2.alloc _) 32 ⟨w2.heap.size, 0, none⟩ rfl ?c1 ?c2 ?c3 ?_)
  case c1 => simp [bv]
  case c2 => rw [hlen.out]; omega
  case c3 => simp; omega
  intro u2 w3 ho3 hb3
  have hA3 := (hA2.alloc _).below hb3 (by omega)
  have hB3 := (hB2.alloc (by omega) _).trans (hb3.mono (by omega))
  have hs3 := hb3.size
  simp at hs3
  clear c1 hcv
  have c1 := hA3.cell 1
  simp at c1
  clear hb3 hb2 hA2 hB2 hA hB
  go_wp2_with fail
  refine (digits_any 1 _ 2 w1.heap.size u2 _ _ (by omega) (by omega) (by simp [Dig.p10]; omega) (by omega) ho3 (by omega) (by rw [List.length_append, hlen.out]; simp)).mono ?_
  rintro e w4 ⟨u3, rfl, ho4, hb4⟩
  clear c1
  have hA4 := hA3.below hb4 (by omega)
  have hB4 := hB3.trans (hb4.mono (by omega))
  have hs4 := hb4.size
  clear hA3 hb4 ho3 hB3
  go_wp2_with (at_builtin; refine wpList_append_byte rfl _ _ rfl w1.heap.size u3 _ rfl (ho4.alloc _) 58 ⟨w4.heap.size, 0, none⟩ rfl ?c1 ?c2 ?c3 ?_)
  case c1 => simp [bv]
  case c2 => simp [Dig.dg_length, hlen.out]
  case c3 => simp; omega
  intro u4 w5 ho5 hb5
  have hA5 := (hA4.alloc _).below hb5 (by omega)
  have hB5 := (hB4.alloc (by omega) _).trans (hb5.mono (by omega))
  have hs5 := hb5.size
  simp at hs5
  have c1 := hA5.cell 1
  simp at c1
  clear hb5
  go_wp2_with fail
  refine (digits_any 1 _ 2 w1.heap.size u4 _ _ (by omega) (by omega) (by simp [Dig.p10]; omega) (by omega) ho5 (by omega) (by simp [Dig.dg_length, hlen.out])).mono ?_
  rintro e w6 ⟨u5, rfl, ho6, hb6⟩
  have hB6 := hB5.trans (hb6.mono (by omega))
  have hcv := conv_own ho6
  clear ho6 ho5 ho4 hb6
  go_wp2
  go_ret2
  exact ⟨rfl, hB6⟩

set_option maxHeartbeats 2000000 in
/-- the reference's FormatClock -/
theorem rfclock (n y m d mi : Int) (w : World) (h : Cal.vld y m d) (hn : Cal.num y m d = n) (hm0 : 0 ≤ mi) (hm1 : mi ≤ 1439) :
    Calls Try.prog 43 #[.int .i64 n, .int .i64 mi] w fun e w' => e = .returned (.string ⟨(ctext y m d mi).toArray⟩) ∧ Below w.heap.size w w' := by
  have HN := Lib.hid hn
  clear hn
  have hlen := dtext_length y m d
  have hl2 := Dig.dg_length
  have e60 : 0 ≤ mi / 60 ∧ mi / 60 ≤ 1000000 := by omega
  have e61 : 0 ≤ mi % 60 ∧ mi % 60 ≤ 1000000 := by omega
  go_enter Try.func43, Try.ntmps43
  go_wp2_with fail
  refine (rformat _ y m d _ h HN.out).mono ?_
  rintro e w1 ⟨rfl, hb1⟩
  go_wp2_with fail
  refine (rdigits_any _ _ _ e60.1 e60.2 (by decide)).mono ?_
  rintro e w2 ⟨rfl, hb2⟩
  go_wp2_with fail
  refine (rdigits_any _ _ _ e61.1 e61.2 (by decide)).mono ?_
  rintro e w3 ⟨rfl, hb3⟩
  go_wp2_with fail
  go_ret
  refine ⟨?_, bstep (bstep hb1 hb2) hb3⟩
  have ec : (ByteArray.mk (dtext y m d).toArray) ++ (ByteArray.mk #[32]) ++ (ByteArray.mk (Dig.dg (mi / 60) 2).toArray) ++ (ByteArray.mk #[58]) ++ (ByteArray.mk (Dig.dg (mi % 60) 2).toArray) = ByteArray.mk (ctext y m d mi).toArray := by
    apply ByteArray.ext; simp [ByteArray.data_append, ctext]
  simp [ec]

/-- what the reference's ParseClock gives at a text that fits -/
def RPClock (n h mi : Int) (w : World) (e : Ending) (w' : World) : Prop :=
  (h ≤ 23 ∧ mi ≤ 59 → e = .returned (.tuple #[.int .i64 n, .int .i64 (60 * h + mi), .int .i64 0])) ∧ (¬ (h ≤ 23 ∧ mi ≤ 59) → e = .returned (.tuple #[.int .i64 0, .int .i64 0, .int .i64 2])) ∧ Below w.heap.size w w'

theorem take_fits {s : ByteArray} (h : Fits s f16) : Fits (s.extract 0 10) f10 := by
  have hs : s.size = 16 := h.1
  refine ⟨by simp [hs]; decide, fun j hj hj' => ?_⟩
  have hj10 : j < 10 := hj'
  have k := h.2 j (by omega) (by show j < 16; omega)
  have e1 : (s.extract 0 10)[j] = s[j]'(by omega) := by
    have a := toList_get (s.extract 0 10) j hj
    rw [Lib.extract_data, List.getElem?_take_of_lt (by omega), List.drop_zero, toList_get s j (by omega)] at a
    exact (Option.some.inj a).symm
  have e2 : f10[j] = f16[j]'(by show j < 16; omega) := by
    obtain rfl | rfl | rfl | rfl | rfl | rfl | rfl | rfl | rfl | rfl : j = 0 ∨ j = 1 ∨ j = 2 ∨ j = 3 ∨ j = 4 ∨ j = 5 ∨ j = 6 ∨ j = 7 ∨ j = 8 ∨ j = 9 := by omega
    all_goals rfl
  rw [e1]; exact Eq.mpr (congrArg (okc _) e2) k
theorem take_nAt {s : ByteArray} {a b : Nat} (h : a + b ≤ 10) : nAt (s.extract 0 10) a b = nAt s a b := by
  unfold nAt
  rw [Lib.extract_data, List.drop_zero, List.drop_take, List.take_take, Nat.min_eq_left (by omega)]

set_option maxHeartbeats 1000000 in
theorem rpclock_nf (s : ByteArray) (w : World) (hs : s.size ≤ maxLen) (hf : ¬ Fits s f16) :
    Calls Try.prog 40 #[.string s] w fun e w' => e = .returned (.tuple #[.int .i64 0, .int .i64 0, .int .i64 3]) ∧ Below w.heap.size w w' := by
  go_enter Try.func40, Try.ntmps40
  go_wp2_with fail
  refine (shape_any s f16 _ hs (by decide)).mono ?_
  rintro e w1 ⟨-, h2, n, rfl⟩
  obtain rfl := h2 hf
  go_wp2_with fail
  go_ret3
  exact ⟨rfl, below_drewN (Below.refl _ _) _⟩

set_option maxHeartbeats 1000000 in
theorem rpclock_nd (s : ByteArray) (Y M D : Int) (w : World) (hf : Fits s f16) (hY : nAt s 0 4 = Y) (hM : nAt s 5 2 = M) (hD : nAt s 8 2 = D) (hv : ¬ Cal.vld Y M D) :
    Calls Try.prog 40 #[.string s] w fun e w' => e = .returned (.tuple #[.int .i64 0, .int .i64 0, .int .i64 28]) ∧ Below w.heap.size w w' := by
  have hs : s.size = 16 := hf.1
  have hp := fun W => (rparse_fit (s.extract 0 10) Y M D W (take_fits hf) (by rw [take_nAt (by omega)]; exact hY) (by rw [take_nAt (by omega)]; exact hM) (by rw [take_nAt (by omega)]; exact hD)).2 hv
  have HP := Lib.hid hp
  clear hp hY hM hD
  go_enter Try.func40, Try.ntmps40
  go_wp2_with fail
  refine (shape_any s f16 _ (by rw [hs]; decide) (by decide)).mono ?_
  rintro e w1 ⟨h1, -, n, hw1⟩
  obtain rfl := h1 hf
  have hB : Below w.heap.size w w1 := by rw [hw1]; exact below_drewN (Below.refl _ _) _
  clear h1 hw1
  go_wp2_with fail
  refine (HP.out _).mono ?_
  rintro e w2 ⟨rfl, hb2⟩
  go_wp2_with fail
  go_ret3
  exact ⟨rfl, bstep hB hb2⟩

set_option maxHeartbeats 2000000 in
theorem rpclock_ok (s : ByteArray) (Y M D h mi : Int) (w : World) (hf : Fits s f16) (hY : nAt s 0 4 = Y) (hM : nAt s 5 2 = M) (hD : nAt s 8 2 = D) (hh : nAt s 11 2 = h) (hm : nAt s 14 2 = mi) (hv : Cal.vld Y M D) :
    Calls Try.prog 40 #[.string s] w (RPClock (Cal.num Y M D) h mi w) := by
  obtain ⟨hs, -, -, -, d4, d5, -⟩ := fits16 hf
  have b4 := nAt_bd2 (s := s) (a := 11) (by omega) d4
  have b5 := nAt_bd2 (s := s) (a := 14) (by omega) d5
  have H4 := Lib.hid d4
  have H5 := Lib.hid d5
  have hp := fun W => (rparse_fit (s.extract 0 10) Y M D W (take_fits hf) (by rw [take_nAt (by omega)]; exact hY) (by rw [take_nAt (by omega)]; exact hM) (by rw [take_nAt (by omega)]; exact hD)).1 hv
  have HP := Lib.hid hp
  have hsl : ∀ (a b : Nat) (W : World), a ≤ b → b ≤ 16 → b - a ≤ 4 → DigAt s a (b - a) → Calls Try.prog 49 #[.string (s.extract a b)] W fun e w' => e = .returned (.int .i64 (nAt s a (b - a))) ∧ W = w' :=
    fun a b W h1 h2 h3 hd => rnum_any s a b _ W rfl h1 (by omega) h3 hd
  have HSL := Lib.hid hsl
  rw [hh] at b4
  rw [hm] at b5
  clear hp hY hM hD hsl d4 d5
  go_enter Try.func40, Try.ntmps40
  go_wp2_with fail
  refine (shape_any s f16 _ (by rw [hs]; decide) (by decide)).mono ?_
  rintro e w1 ⟨h1, -, n, hw1⟩
  obtain rfl := h1 hf
  have hB : Below w.heap.size w w1 := by rw [hw1]; exact below_drewN (Below.refl _ _) _
  clear h1 hw1
  go_wp2_with fail
  refine (HP.out _).mono ?_
  rintro e w2 ⟨rfl, hb2⟩
  have hB2 := bstep hB hb2
  clear hB hb2
  by_cases x1 : 23 < h
  · go_wp2_with fail
    go_region_held3 (fun _ => True) (trivial) (first | (go_at_call 49; ((with_reducible refine (HSL.out _ _ _ ?_ ?_ ?_ ?_).mono ?_) <;> (first | omega | exact H4.out | exact H5.out | (rintro e w2 ⟨rfl, rfl⟩)))))
    go_wp2_with fail
    go_ret3
    exact ⟨fun hh => absurd hh (by omega), fun _ => rfl, hB2.drew⟩
  · by_cases x2 : 59 < mi
    · go_wp2_with fail
      go_region_held3 (fun _ => True) (trivial) (first | (go_at_call 49; ((with_reducible refine (HSL.out _ _ _ ?_ ?_ ?_ ?_).mono ?_) <;> (first | omega | exact H4.out | exact H5.out | (rintro e w2 ⟨rfl, rfl⟩)))))
      go_wp2_with fail
      go_ret3
      exact ⟨fun hh => absurd hh (by omega), fun _ => rfl, hB2.drew⟩
    · go_wp2_with fail
      go_region_held3 (fun _ => True) (trivial) (first | (go_at_call 49; ((with_reducible refine (HSL.out _ _ _ ?_ ?_ ?_ ?_).mono ?_) <;> (first | omega | exact H4.out | exact H5.out | (rintro e w2 ⟨rfl, rfl⟩)))))
      go_wp2_with fail
      go_ret3
      exact ⟨fun _ => rfl, fun hh => absurd (by omega) hh, hB2.drew⟩
end Go.Proofs.Ytajebigjcggnfaa
