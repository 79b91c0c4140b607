/- The walk of the law DateClocks. -/
import Derived.Test.YtajebigjcggnfaaOrder
import Derived.OpenShut
import Derived.Deep.DeepCutAuto
namespace Go.Proofs.Ytajebigjcggnfaa
open Go.RowKit
set_option linter.unusedVariables false
attribute [local go_sem ↓] Go.wp_at_zero Go.wp_at_succ

theorem At.set0 {w : World} {g : Nat} {t : TypeId} {x y : Value} (h : At w g t #[x, y]) (u : Value) : At (w.setCell ⟨g, 0, none⟩ u) g t #[u, y] := h.set 0 u
theorem At.two {w : World} {g : Nat} {t : TypeId} {x y : Value} (h : At w g t #[x, y]) : w.cell? ⟨g, 0, none⟩ = some x ∧ w.cell? ⟨g, 1, none⟩ = some y ∧ w.frozen? ⟨g, 0, none⟩ = false ∧ w.frozen? ⟨g, 1, none⟩ = false := ⟨h.cell 0, h.cell 1, h.frozen 0, h.frozen 1⟩

theorem pclock_back {y m d mi n : Int} (h : Cal.vld y m d) (hn : Cal.num y m d = n) (m0 : 0 ≤ mi) (m1 : mi ≤ 1439) (W : World) :
    Calls Try.prog 39 #[.string ⟨(ctext y m d mi).toArray⟩] W fun x w' => x = .returned (.tuple #[.agg #[.int .i64 n, .int .i64 mi], .int .i64 0]) ∧ Below W.heap.size W w' := by
  obtain ⟨k1, k2, k3, k4, k5⟩ := ctext_nAt h m0 m1
  refine (pclock_ok _ _ _ _ _ _ W (ctext_fits y m d mi) k1 k2 k3 k4 k5 h).mono fun x w' hh => ⟨?_, hh.2.2⟩
  rw [hh.1 ⟨by omega, by omega⟩, hn, show 60 * (mi / 60) + mi % 60 = mi from by omega]

set_option maxRecDepth 100000 in
set_option maxHeartbeats 4000000 in
theorem dateClocks_walk (a : Int) (wa : (Lit.int .i64 a).wf = true) (b : Int) (wb : (Lit.int .i64 b).wf = true) (c : Int) (wc : (Lit.int .i64 c).wf = true) (d : Int) (wd : (Lit.int .i64 d).wf = true) (w : World) :
    Calls Try.prog 12 #[.agg #[.int .i64 a, .int .i64 b], .agg #[.int .i64 c, .int .i64 d]] w fun e w' => e = .returned (.bool true) ∧ Below w.heap.size w w' := by
  have ba := Lib.hid (bounds_i64 wa)
  have bc := Lib.hid (bounds_i64 wc)
  have bb := bounds_i64 wb
  clear wa wb wc wd
  go_enter Try.func12, Try.ntmps12
  go_wp2_with fail
  refine (known_ok _).mono ?_
  rintro e w1 ⟨rfl, hb1⟩
  have hA := ((At.new w 56 #[.int .i64 a, .int .i64 b]).alloc (.cells #[.int .i64 c, .int .i64 d] 56)).below hb1 (by simp; omega)
  have hC : At w1 (w.heap.size + 1) 56 #[.int .i64 c, .int .i64 d] := by
    have h := (At.new (w.alloc (.cells #[.int .i64 a, .int .i64 b] 56)) 56 #[.int .i64 c, .int .i64 d]).below hb1 (by simp)
    simpa using h
  have hB := bstep (((Below.refl _ _).alloc (Nat.le_refl _) _).alloc (by simp) _) hb1
  obtain ⟨a0, a1, a2, a3⟩ := hA.two
  obtain ⟨c0, c1, c2, c3⟩ := hC.two
  go_wp2_with fail
  go_cut [] (fun wx => ∃ x z : Int, -3 ≤ x ∧ x ≤ 73060 ∧ At wx w.heap.size 56 #[.int .i64 x, .int .i64 b] ∧ At wx (w.heap.size + 1) 56 #[.int .i64 z, .int .i64 d] ∧ Below w.heap.size w wx)
  case first =>
    go_region_with (first | (go_at_call 14; ((with_reducible refine (day_any _ _ ?_ ?_).mono ?_) <;> (first | exact ba.out.1 | exact ba.out.2 | exact bc.out.1 | exact bc.out.2 | (rintro e w' ⟨x, rfl, x1, x2, rfl⟩)))))
    all_goals
      go_wp2_with fail
      go_meet
      apply Exists.intro
      apply Exists.intro
      refine ⟨?b1, ?b2, ?t1, ?t2, ?bel⟩
      case t1 => repeat (first | exact hA | refine At.drew ?_ | refine At.drewN ?_ _ | refine At.set0 (x := .int .i64 a) ?_ _ | refine At.far ?_ (by simp) _)
      case t2 => repeat (first | exact hC | refine At.drew ?_ | refine At.drewN ?_ _ | refine At.set0 (x := .int .i64 c) ?_ _ | refine At.far ?_ (by simp) _)
      case b1 => assumption
      case b2 => assumption
      case bel => repeat (first | exact hB | refine Below.drew ?_ | refine below_drewN ?_ _ | refine Below.setCell ?_ (by simp) _)
  case rest =>
    clear a0 a1 a2 a3 c0 c1 c2 c3 hA hC hB hb1
    obtain ⟨x, z, x1, x2, hA, hC, hB⟩ := hcut
    obtain ⟨a0, a1, a2, a3⟩ := hA.two
    obtain ⟨c0, c1, c2, c3⟩ := hC.two
    have hlt : w.heap.size + 1 < wc.heap.size := hC.lt
    clear ba bc
    have key : ∀ (P : Prop), (x < z → P) → (x = z → b < d → P) → (x = z → b = d → P) → (x = z → d < b → P) → (z < x → P) → P := by
      intro P p1 p2 p3 p4 p5
      rcases Int.lt_trichotomy x z with h | h | h
      · exact p1 h
      · rcases Int.lt_trichotomy b d with g | g | g
        · exact p2 h g
        · exact p3 h g
        · exact p4 h g
      · exact p5 h
    by_cases hday : 0 ≤ x ∧ x ≤ 73048
    · obtain ⟨y, m, dd, hd, hn⟩ := Cal.exists_date x hday.1 hday.2
      have HDay := Lib.hid hday
      have HD := Lib.hid hd
      have HN := Lib.hid hn
      clear hday hd hn
      by_cases hmi : 0 ≤ b ∧ b ≤ 1439
      · obtain ⟨m0, m1⟩ := hmi
        have q1 := fun W => fclock_ok x y m dd b W HD.out HN.out m0 m1
        have q2 := fun W => rfclock x y m dd b W HD.out HN.out m0 m1
        have q3 := fun W => pclock_back HD.out HN.out m0 m1 W
        have Q1 := Lib.hid q1
        have Q2 := Lib.hid q2
        have Q3 := Lib.hid q3
        clear q1 q2 q3 HD HN
        generalize ctext y m dd b = S at *
        refine key _ (fun h => ?_) (fun h g => ?_) (fun h g => ?_) (fun h g => ?_) (fun h => ?_)
        case refine_1 =>
          clear key
          have e1 := Lib.hid (cmpV_lt (b := b) (d := d) (Or.inl h))
          have e2 := Lib.hid (cmpV_gt (a := z) (b := d) (c := x) (d := b) (by omega) (by omega))
          have hlt1 : w.heap.size < wc.heap.size := hA.lt
          go_wp2_with fail
          refine (compare_any _ _ _ _ _).mono ?_
          rintro e w2 ⟨rfl, hb2⟩
          rw [e1.out]
          have hA2 := hA.below hb2 hlt1
          have hC2 := hC.below hb2 hlt
          have hB2 := bstep hB hb2
          clear a0 a1 a2 a3 c0 c1 c2 c3 hA hC hB hb2
          obtain ⟨a0, a1, a2, a3⟩ := hA2.two
          obtain ⟨c0, c1, c2, c3⟩ := hC2.two
          go_wp2_with fail
          refine (compare_any _ _ _ _ _).mono ?_
          rintro e w3 ⟨rfl, hb3⟩
          rw [e2.out]
          have hA3 := hA2.below hb3 hA2.lt
          have hB3 := bstep hB2 hb3
          clear a0 a1 a2 a3 c0 c1 c2 c3 hA2 hC2 hB2 hb3
          obtain ⟨a0, a1, a2, a3⟩ := hA3.two
          go_wp2_with fail
          refine (Q1.out _).mono ?_
          rintro e w4 ⟨rfl, hb4⟩
          have hA4 := hA3.below hb4 hA3.lt
          have hB4 := bstep hB3 hb4
          clear a0 a1 a2 a3 hA3 hB3 hb4
          obtain ⟨a0, a1, a2, a3⟩ := hA4.two
          go_wp2_with fail
          refine (rday_yes _ _ HDay.out.1 HDay.out.2).mono ?_
          rintro e w' ⟨rfl, rfl⟩
          go_wp2_with fail
          refine (Q3.out _).mono ?_
          rintro e w5 ⟨rfl, hb5⟩
          have hA5 := hA4.below hb5 hA4.lt
          have hB5 := bstep hB4 hb5
          clear a0 a1 a2 a3 hA4 hB4 hb5
          obtain ⟨a0, a1, a2, a3⟩ := hA5.two
          have hl5 := hA5.lt
          go_wp2_with fail
          refine (Q2.out _).mono ?_
          rintro e w6 ⟨rfl, hb6⟩
          have hA6 := (hA5.alloc _).below hb6 (by simp; omega)
          have hR6 := (At.new w5 56 #[.int .i64 x, .int .i64 b]).below hb6 (by simp)
          have hB6 := bstep (hB5.alloc hB5.size _) hb6
          clear a0 a1 a2 a3 hA5 hB5 hb6
          obtain ⟨a0, a1, a2, a3⟩ := hA6.two
          obtain ⟨r0, r1, r2, r3⟩ := hR6.two
          go_wp2_with fail
          go_ret
          exact ⟨by simp, hB6⟩
        case refine_2 =>
          clear key
          subst h
          have e1 := Lib.hid (cmpV_lt (a := x) (b := b) (c := x) (d := d) (Or.inr ⟨rfl, g⟩))
          have e2 := Lib.hid (cmpV_gt (a := x) (b := d) (c := x) (d := b) (by omega) (by omega))
          have hlt1 : w.heap.size < wc.heap.size := hA.lt
          go_wp2_with fail
          refine (compare_any _ _ _ _ _).mono ?_
          rintro e w2 ⟨rfl, hb2⟩
          rw [e1.out]
          have hA2 := hA.below hb2 hlt1
          have hC2 := hC.below hb2 hlt
          have hB2 := bstep hB hb2
          clear a0 a1 a2 a3 c0 c1 c2 c3 hA hC hB hb2
          obtain ⟨a0, a1, a2, a3⟩ := hA2.two
          obtain ⟨c0, c1, c2, c3⟩ := hC2.two
          go_wp2_with fail
          refine (compare_any _ _ _ _ _).mono ?_
          rintro e w3 ⟨rfl, hb3⟩
          rw [e2.out]
          have hA3 := hA2.below hb3 hA2.lt
          have hB3 := bstep hB2 hb3
          clear a0 a1 a2 a3 c0 c1 c2 c3 hA2 hC2 hB2 hb3
          obtain ⟨a0, a1, a2, a3⟩ := hA3.two
          go_wp2_with fail
          refine (Q1.out _).mono ?_
          rintro e w4 ⟨rfl, hb4⟩
          have hA4 := hA3.below hb4 hA3.lt
          have hB4 := bstep hB3 hb4
          clear a0 a1 a2 a3 hA3 hB3 hb4
          obtain ⟨a0, a1, a2, a3⟩ := hA4.two
          go_wp2_with fail
          refine (rday_yes _ _ HDay.out.1 HDay.out.2).mono ?_
          rintro e w' ⟨rfl, rfl⟩
          go_wp2_with fail
          refine (Q3.out _).mono ?_
          rintro e w5 ⟨rfl, hb5⟩
          have hA5 := hA4.below hb5 hA4.lt
          have hB5 := bstep hB4 hb5
          clear a0 a1 a2 a3 hA4 hB4 hb5
          obtain ⟨a0, a1, a2, a3⟩ := hA5.two
          have hl5 := hA5.lt
          go_wp2_with fail
          refine (Q2.out _).mono ?_
          rintro e w6 ⟨rfl, hb6⟩
          have hA6 := (hA5.alloc _).below hb6 (by simp; omega)
          have hR6 := (At.new w5 56 #[.int .i64 x, .int .i64 b]).below hb6 (by simp)
          have hB6 := bstep (hB5.alloc hB5.size _) hb6
          clear a0 a1 a2 a3 hA5 hB5 hb6
          obtain ⟨a0, a1, a2, a3⟩ := hA6.two
          obtain ⟨r0, r1, r2, r3⟩ := hR6.two
          go_wp2_with fail
          go_ret
          exact ⟨by simp, hB6⟩
        case refine_3 =>
          clear key
          subst h
          subst g
          have e1 := Lib.hid (cmpV_eq (a := x) (b := b) (c := x) (d := b) rfl rfl)
          have e2 := e1
          have hlt1 : w.heap.size < wc.heap.size := hA.lt
          go_wp2_with fail
          refine (compare_any _ _ _ _ _).mono ?_
          rintro e w2 ⟨rfl, hb2⟩
          rw [e1.out]
          have hA2 := hA.below hb2 hlt1
          have hC2 := hC.below hb2 hlt
          have hB2 := bstep hB hb2
          clear a0 a1 a2 a3 c0 c1 c2 c3 hA hC hB hb2
          obtain ⟨a0, a1, a2, a3⟩ := hA2.two
          obtain ⟨c0, c1, c2, c3⟩ := hC2.two
          go_wp2_with fail
          refine (compare_any _ _ _ _ _).mono ?_
          rintro e w3 ⟨rfl, hb3⟩
          rw [e2.out]
          have hA3 := hA2.below hb3 hA2.lt
          have hB3 := bstep hB2 hb3
          clear a0 a1 a2 a3 c0 c1 c2 c3 hA2 hC2 hB2 hb3
          obtain ⟨a0, a1, a2, a3⟩ := hA3.two
          go_wp2_with fail
          refine (Q1.out _).mono ?_
          rintro e w4 ⟨rfl, hb4⟩
          have hA4 := hA3.below hb4 hA3.lt
          have hB4 := bstep hB3 hb4
          clear a0 a1 a2 a3 hA3 hB3 hb4
          obtain ⟨a0, a1, a2, a3⟩ := hA4.two
          go_wp2_with fail
          refine (rday_yes _ _ HDay.out.1 HDay.out.2).mono ?_
          rintro e w' ⟨rfl, rfl⟩
          go_wp2_with fail
          refine (Q3.out _).mono ?_
          rintro e w5 ⟨rfl, hb5⟩
          have hA5 := hA4.below hb5 hA4.lt
          have hB5 := bstep hB4 hb5
          clear a0 a1 a2 a3 hA4 hB4 hb5
          obtain ⟨a0, a1, a2, a3⟩ := hA5.two
          have hl5 := hA5.lt
          go_wp2_with fail
          refine (Q2.out _).mono ?_
          rintro e w6 ⟨rfl, hb6⟩
          have hA6 := (hA5.alloc _).below hb6 (by simp; omega)
          have hR6 := (At.new w5 56 #[.int .i64 x, .int .i64 b]).below hb6 (by simp)
          have hB6 := bstep (hB5.alloc hB5.size _) hb6
          clear a0 a1 a2 a3 hA5 hB5 hb6
          obtain ⟨a0, a1, a2, a3⟩ := hA6.two
          obtain ⟨r0, r1, r2, r3⟩ := hR6.two
          go_wp2_with fail
          go_ret
          exact ⟨by simp, hB6⟩
        case refine_4 =>
          clear key
          subst h
          have e1 := Lib.hid (cmpV_gt (a := x) (b := b) (c := x) (d := d) (by omega) (by omega))
          have e2 := Lib.hid (cmpV_lt (a := x) (b := d) (c := x) (d := b) (Or.inr ⟨rfl, g⟩))
          have hbd : (b == d) = false := by rw [beq_eq_false_iff_ne]; omega
          have hlt1 : w.heap.size < wc.heap.size := hA.lt
          go_wp2_with fail
          refine (compare_any _ _ _ _ _).mono ?_
          rintro e w2 ⟨rfl, hb2⟩
          rw [e1.out]
          have hA2 := hA.below hb2 hlt1
          have hC2 := hC.below hb2 hlt
          have hB2 := bstep hB hb2
          clear a0 a1 a2 a3 c0 c1 c2 c3 hA hC hB hb2
          obtain ⟨a0, a1, a2, a3⟩ := hA2.two
          obtain ⟨c0, c1, c2, c3⟩ := hC2.two
          go_wp2_with fail
          refine (compare_any _ _ _ _ _).mono ?_
          rintro e w3 ⟨rfl, hb3⟩
          rw [e2.out]
          have hA3 := hA2.below hb3 hA2.lt
          have hB3 := bstep hB2 hb3
          clear a0 a1 a2 a3 c0 c1 c2 c3 hA2 hC2 hB2 hb3
          obtain ⟨a0, a1, a2, a3⟩ := hA3.two
          go_wp2_with fail
          refine (Q1.out _).mono ?_
          rintro e w4 ⟨rfl, hb4⟩
          have hA4 := hA3.below hb4 hA3.lt
          have hB4 := bstep hB3 hb4
          clear a0 a1 a2 a3 hA3 hB3 hb4
          obtain ⟨a0, a1, a2, a3⟩ := hA4.two
          go_wp2_with fail
          refine (rday_yes _ _ HDay.out.1 HDay.out.2).mono ?_
          rintro e w' ⟨rfl, rfl⟩
          go_wp2_with fail
          refine (Q3.out _).mono ?_
          rintro e w5 ⟨rfl, hb5⟩
          have hA5 := hA4.below hb5 hA4.lt
          have hB5 := bstep hB4 hb5
          clear a0 a1 a2 a3 hA4 hB4 hb5
          obtain ⟨a0, a1, a2, a3⟩ := hA5.two
          have hl5 := hA5.lt
          go_wp2_with fail
          refine (Q2.out _).mono ?_
          rintro e w6 ⟨rfl, hb6⟩
          have hA6 := (hA5.alloc _).below hb6 (by simp; omega)
          have hR6 := (At.new w5 56 #[.int .i64 x, .int .i64 b]).below hb6 (by simp)
          have hB6 := bstep (hB5.alloc hB5.size _) hb6
          clear a0 a1 a2 a3 hA5 hB5 hb6
          obtain ⟨a0, a1, a2, a3⟩ := hA6.two
          obtain ⟨r0, r1, r2, r3⟩ := hR6.two
          go_wp2_with fail
          go_ret
          exact ⟨by simp, hB6⟩
        case refine_5 =>
          clear key
          have e1 := Lib.hid (cmpV_gt (a := x) (b := b) (c := z) (d := d) (by omega) (by omega))
          have e2 := Lib.hid (cmpV_lt (a := z) (b := d) (c := x) (d := b) (Or.inl h))
          have hxz : (x == z) = false := by rw [beq_eq_false_iff_ne]; omega
          have hlt1 : w.heap.size < wc.heap.size := hA.lt
          go_wp2_with fail
          refine (compare_any _ _ _ _ _).mono ?_
          rintro e w2 ⟨rfl, hb2⟩
          rw [e1.out]
          have hA2 := hA.below hb2 hlt1
          have hC2 := hC.below hb2 hlt
          have hB2 := bstep hB hb2
          clear a0 a1 a2 a3 c0 c1 c2 c3 hA hC hB hb2
          obtain ⟨a0, a1, a2, a3⟩ := hA2.two
          obtain ⟨c0, c1, c2, c3⟩ := hC2.two
          go_wp2_with fail
          refine (compare_any _ _ _ _ _).mono ?_
          rintro e w3 ⟨rfl, hb3⟩
          rw [e2.out]
          have hA3 := hA2.below hb3 hA2.lt
          have hB3 := bstep hB2 hb3
          clear a0 a1 a2 a3 c0 c1 c2 c3 hA2 hC2 hB2 hb3
          obtain ⟨a0, a1, a2, a3⟩ := hA3.two
          go_wp2_with fail
          refine (Q1.out _).mono ?_
          rintro e w4 ⟨rfl, hb4⟩
          have hA4 := hA3.below hb4 hA3.lt
          have hB4 := bstep hB3 hb4
          clear a0 a1 a2 a3 hA3 hB3 hb4
          obtain ⟨a0, a1, a2, a3⟩ := hA4.two
          go_wp2_with fail
          refine (rday_yes _ _ HDay.out.1 HDay.out.2).mono ?_
          rintro e w' ⟨rfl, rfl⟩
          go_wp2_with fail
          refine (Q3.out _).mono ?_
          rintro e w5 ⟨rfl, hb5⟩
          have hA5 := hA4.below hb5 hA4.lt
          have hB5 := bstep hB4 hb5
          clear a0 a1 a2 a3 hA4 hB4 hb5
          obtain ⟨a0, a1, a2, a3⟩ := hA5.two
          have hl5 := hA5.lt
          go_wp2_with fail
          refine (Q2.out _).mono ?_
          rintro e w6 ⟨rfl, hb6⟩
          have hA6 := (hA5.alloc _).below hb6 (by simp; omega)
          have hR6 := (At.new w5 56 #[.int .i64 x, .int .i64 b]).below hb6 (by simp)
          have hB6 := bstep (hB5.alloc hB5.size _) hb6
          clear a0 a1 a2 a3 hA5 hB5 hb6
          obtain ⟨a0, a1, a2, a3⟩ := hA6.two
          obtain ⟨r0, r1, r2, r3⟩ := hR6.two
          go_wp2_with fail
          go_ret
          exact ⟨by simp, hB6⟩
      · have hmi2 : b < 0 ∨ 1439 < b := by omega
        have q1 := fun W => fclock_min x y m dd b W HD.out HN.out hmi2
        have Q1 := Lib.hid q1
        clear q1 HD HN hmi
        rcases hmi2 with hmi2 | hmi2
        all_goals
          refine key _ (fun h => ?_) (fun h g => ?_) (fun h g => ?_) (fun h g => ?_) (fun h => ?_)
          case refine_1 =>
            clear key
            have e1 := Lib.hid (cmpV_lt (b := b) (d := d) (Or.inl h))
            have e2 := Lib.hid (cmpV_gt (a := z) (b := d) (c := x) (d := b) (by omega) (by omega))
            have hlt1 : w.heap.size < wc.heap.size := hA.lt
            go_wp2_with fail
            refine (compare_any _ _ _ _ _).mono ?_
            rintro e w2 ⟨rfl, hb2⟩
            rw [e1.out]
            have hA2 := hA.below hb2 hlt1
            have hC2 := hC.below hb2 hlt
            have hB2 := bstep hB hb2
            clear a0 a1 a2 a3 c0 c1 c2 c3 hA hC hB hb2
            obtain ⟨a0, a1, a2, a3⟩ := hA2.two
            obtain ⟨c0, c1, c2, c3⟩ := hC2.two
            go_wp2_with fail
            refine (compare_any _ _ _ _ _).mono ?_
            rintro e w3 ⟨rfl, hb3⟩
            rw [e2.out]
            have hA3 := hA2.below hb3 hA2.lt
            have hB3 := bstep hB2 hb3
            clear a0 a1 a2 a3 c0 c1 c2 c3 hA2 hC2 hB2 hb3
            obtain ⟨a0, a1, a2, a3⟩ := hA3.two
            go_wp2_with fail
            refine (Q1.out _).mono ?_
            rintro e w4 ⟨rfl, hb4⟩
            have hA4 := hA3.below hb4 hA3.lt
            have hB4 := bstep hB3 hb4
            clear a0 a1 a2 a3 hA3 hB3 hb4
            obtain ⟨a0, a1, a2, a3⟩ := hA4.two
            go_wp2_with fail
            refine (rday_yes _ _ HDay.out.1 HDay.out.2).mono ?_
            rintro e w' ⟨rfl, rfl⟩
            go_wp2_with fail
            go_ret
            exact ⟨rfl, hB4⟩
          case refine_2 =>
            clear key
            subst h
            have e1 := Lib.hid (cmpV_lt (a := x) (b := b) (c := x) (d := d) (Or.inr ⟨rfl, g⟩))
            have e2 := Lib.hid (cmpV_gt (a := x) (b := d) (c := x) (d := b) (by omega) (by omega))
            have hlt1 : w.heap.size < wc.heap.size := hA.lt
            go_wp2_with fail
            refine (compare_any _ _ _ _ _).mono ?_
            rintro e w2 ⟨rfl, hb2⟩
            rw [e1.out]
            have hA2 := hA.below hb2 hlt1
            have hC2 := hC.below hb2 hlt
            have hB2 := bstep hB hb2
            clear a0 a1 a2 a3 c0 c1 c2 c3 hA hC hB hb2
            obtain ⟨a0, a1, a2, a3⟩ := hA2.two
            obtain ⟨c0, c1, c2, c3⟩ := hC2.two
            go_wp2_with fail
            refine (compare_any _ _ _ _ _).mono ?_
            rintro e w3 ⟨rfl, hb3⟩
            rw [e2.out]
            have hA3 := hA2.below hb3 hA2.lt
            have hB3 := bstep hB2 hb3
            clear a0 a1 a2 a3 c0 c1 c2 c3 hA2 hC2 hB2 hb3
            obtain ⟨a0, a1, a2, a3⟩ := hA3.two
            go_wp2_with fail
            refine (Q1.out _).mono ?_
            rintro e w4 ⟨rfl, hb4⟩
            have hA4 := hA3.below hb4 hA3.lt
            have hB4 := bstep hB3 hb4
            clear a0 a1 a2 a3 hA3 hB3 hb4
            obtain ⟨a0, a1, a2, a3⟩ := hA4.two
            go_wp2_with fail
            refine (rday_yes _ _ HDay.out.1 HDay.out.2).mono ?_
            rintro e w' ⟨rfl, rfl⟩
            go_wp2_with fail
            go_ret
            exact ⟨rfl, hB4⟩
          case refine_3 =>
            clear key
            subst h
            subst g
            have e1 := Lib.hid (cmpV_eq (a := x) (b := b) (c := x) (d := b) rfl rfl)
            have e2 := e1
            have hlt1 : w.heap.size < wc.heap.size := hA.lt
            go_wp2_with fail
            refine (compare_any _ _ _ _ _).mono ?_
            rintro e w2 ⟨rfl, hb2⟩
            rw [e1.out]
            have hA2 := hA.below hb2 hlt1
            have hC2 := hC.below hb2 hlt
            have hB2 := bstep hB hb2
            clear a0 a1 a2 a3 c0 c1 c2 c3 hA hC hB hb2
            obtain ⟨a0, a1, a2, a3⟩ := hA2.two
            obtain ⟨c0, c1, c2, c3⟩ := hC2.two
            go_wp2_with fail
            refine (compare_any _ _ _ _ _).mono ?_
            rintro e w3 ⟨rfl, hb3⟩
            rw [e2.out]
            have hA3 := hA2.below hb3 hA2.lt
            have hB3 := bstep hB2 hb3
            clear a0 a1 a2 a3 c0 c1 c2 c3 hA2 hC2 hB2 hb3
            obtain ⟨a0, a1, a2, a3⟩ := hA3.two
            go_wp2_with fail
            refine (Q1.out _).mono ?_
            rintro e w4 ⟨rfl, hb4⟩
            have hA4 := hA3.below hb4 hA3.lt
            have hB4 := bstep hB3 hb4
            clear a0 a1 a2 a3 hA3 hB3 hb4
            obtain ⟨a0, a1, a2, a3⟩ := hA4.two
            go_wp2_with fail
            refine (rday_yes _ _ HDay.out.1 HDay.out.2).mono ?_
            rintro e w' ⟨rfl, rfl⟩
            go_wp2_with fail
            go_ret
            exact ⟨rfl, hB4⟩
          case refine_4 =>
            clear key
            subst h
            have e1 := Lib.hid (cmpV_gt (a := x) (b := b) (c := x) (d := d) (by omega) (by omega))
            have e2 := Lib.hid (cmpV_lt (a := x) (b := d) (c := x) (d := b) (Or.inr ⟨rfl, g⟩))
            have hbd : (b == d) = false := by rw [beq_eq_false_iff_ne]; omega
            have hlt1 : w.heap.size < wc.heap.size := hA.lt
            go_wp2_with fail
            refine (compare_any _ _ _ _ _).mono ?_
            rintro e w2 ⟨rfl, hb2⟩
            rw [e1.out]
            have hA2 := hA.below hb2 hlt1
            have hC2 := hC.below hb2 hlt
            have hB2 := bstep hB hb2
            clear a0 a1 a2 a3 c0 c1 c2 c3 hA hC hB hb2
            obtain ⟨a0, a1, a2, a3⟩ := hA2.two
            obtain ⟨c0, c1, c2, c3⟩ := hC2.two
            go_wp2_with fail
            refine (compare_any _ _ _ _ _).mono ?_
            rintro e w3 ⟨rfl, hb3⟩
            rw [e2.out]
            have hA3 := hA2.below hb3 hA2.lt
            have hB3 := bstep hB2 hb3
            clear a0 a1 a2 a3 c0 c1 c2 c3 hA2 hC2 hB2 hb3
            obtain ⟨a0, a1, a2, a3⟩ := hA3.two
            go_wp2_with fail
            refine (Q1.out _).mono ?_
            rintro e w4 ⟨rfl, hb4⟩
            have hA4 := hA3.below hb4 hA3.lt
            have hB4 := bstep hB3 hb4
            clear a0 a1 a2 a3 hA3 hB3 hb4
            obtain ⟨a0, a1, a2, a3⟩ := hA4.two
            go_wp2_with fail
            refine (rday_yes _ _ HDay.out.1 HDay.out.2).mono ?_
            rintro e w' ⟨rfl, rfl⟩
            go_wp2_with fail
            go_ret
            exact ⟨rfl, hB4⟩
          case refine_5 =>
            clear key
            have e1 := Lib.hid (cmpV_gt (a := x) (b := b) (c := z) (d := d) (by omega) (by omega))
            have e2 := Lib.hid (cmpV_lt (a := z) (b := d) (c := x) (d := b) (Or.inl h))
            have hxz : (x == z) = false := by rw [beq_eq_false_iff_ne]; omega
            have hlt1 : w.heap.size < wc.heap.size := hA.lt
            go_wp2_with fail
            refine (compare_any _ _ _ _ _).mono ?_
            rintro e w2 ⟨rfl, hb2⟩
            rw [e1.out]
            have hA2 := hA.below hb2 hlt1
            have hC2 := hC.below hb2 hlt
            have hB2 := bstep hB hb2
            clear a0 a1 a2 a3 c0 c1 c2 c3 hA hC hB hb2
            obtain ⟨a0, a1, a2, a3⟩ := hA2.two
            obtain ⟨c0, c1, c2, c3⟩ := hC2.two
            go_wp2_with fail
            refine (compare_any _ _ _ _ _).mono ?_
            rintro e w3 ⟨rfl, hb3⟩
            rw [e2.out]
            have hA3 := hA2.below hb3 hA2.lt
            have hB3 := bstep hB2 hb3
            clear a0 a1 a2 a3 c0 c1 c2 c3 hA2 hC2 hB2 hb3
            obtain ⟨a0, a1, a2, a3⟩ := hA3.two
            go_wp2_with fail
            refine (Q1.out _).mono ?_
            rintro e w4 ⟨rfl, hb4⟩
            have hA4 := hA3.below hb4 hA3.lt
            have hB4 := bstep hB3 hb4
            clear a0 a1 a2 a3 hA3 hB3 hb4
            obtain ⟨a0, a1, a2, a3⟩ := hA4.two
            go_wp2_with fail
            refine (rday_yes _ _ HDay.out.1 HDay.out.2).mono ?_
            rintro e w' ⟨rfl, rfl⟩
            go_wp2_with fail
            go_ret
            exact ⟨rfl, hB4⟩
    · have hday2 : x < 0 ∨ 73048 < x := by omega
      have HDay := Lib.hid hday2
      have q1 := fun W => fclock_bad x b W HDay.out
      have Q1 := Lib.hid q1
      clear q1 hday hday2
      refine key _ (fun h => ?_) (fun h g => ?_) (fun h g => ?_) (fun h g => ?_) (fun h => ?_)
      case refine_1 =>
        clear key
        have e1 := Lib.hid (cmpV_lt (b := b) (d := d) (Or.inl h))
        have e2 := Lib.hid (cmpV_gt (a := z) (b := d) (c := x) (d := b) (by omega) (by omega))
        have hlt1 : w.heap.size < wc.heap.size := hA.lt
        go_wp2_with fail
        refine (compare_any _ _ _ _ _).mono ?_
        rintro e w2 ⟨rfl, hb2⟩
        rw [e1.out]
        have hA2 := hA.below hb2 hlt1
        have hC2 := hC.below hb2 hlt
        have hB2 := bstep hB hb2
        clear a0 a1 a2 a3 c0 c1 c2 c3 hA hC hB hb2
        obtain ⟨a0, a1, a2, a3⟩ := hA2.two
        obtain ⟨c0, c1, c2, c3⟩ := hC2.two
        go_wp2_with fail
        refine (compare_any _ _ _ _ _).mono ?_
        rintro e w3 ⟨rfl, hb3⟩
        rw [e2.out]
        have hA3 := hA2.below hb3 hA2.lt
        have hB3 := bstep hB2 hb3
        clear a0 a1 a2 a3 c0 c1 c2 c3 hA2 hC2 hB2 hb3
        obtain ⟨a0, a1, a2, a3⟩ := hA3.two
        go_wp2_with fail
        refine (Q1.out _).mono ?_
        rintro e w4 ⟨rfl, hb4⟩
        have hA4 := hA3.below hb4 hA3.lt
        have hB4 := bstep hB3 hb4
        clear a0 a1 a2 a3 hA3 hB3 hb4
        obtain ⟨a0, a1, a2, a3⟩ := hA4.two
        go_wp2_with fail
        refine (rday_no _ _ HDay.out).mono ?_
        rintro e w' ⟨rfl, rfl⟩
        go_wp2_with fail
        go_ret
        exact ⟨rfl, hB4⟩
      case refine_2 =>
        clear key
        subst h
        have e1 := Lib.hid (cmpV_lt (a := x) (b := b) (c := x) (d := d) (Or.inr ⟨rfl, g⟩))
        have e2 := Lib.hid (cmpV_gt (a := x) (b := d) (c := x) (d := b) (by omega) (by omega))
        have hlt1 : w.heap.size < wc.heap.size := hA.lt
        go_wp2_with fail
        refine (compare_any _ _ _ _ _).mono ?_
        rintro e w2 ⟨rfl, hb2⟩
        rw [e1.out]
        have hA2 := hA.below hb2 hlt1
        have hC2 := hC.below hb2 hlt
        have hB2 := bstep hB hb2
        clear a0 a1 a2 a3 c0 c1 c2 c3 hA hC hB hb2
        obtain ⟨a0, a1, a2, a3⟩ := hA2.two
        obtain ⟨c0, c1, c2, c3⟩ := hC2.two
        go_wp2_with fail
        refine (compare_any _ _ _ _ _).mono ?_
        rintro e w3 ⟨rfl, hb3⟩
        rw [e2.out]
        have hA3 := hA2.below hb3 hA2.lt
        have hB3 := bstep hB2 hb3
        clear a0 a1 a2 a3 c0 c1 c2 c3 hA2 hC2 hB2 hb3
        obtain ⟨a0, a1, a2, a3⟩ := hA3.two
        go_wp2_with fail
        refine (Q1.out _).mono ?_
        rintro e w4 ⟨rfl, hb4⟩
        have hA4 := hA3.below hb4 hA3.lt
        have hB4 := bstep hB3 hb4
        clear a0 a1 a2 a3 hA3 hB3 hb4
        obtain ⟨a0, a1, a2, a3⟩ := hA4.two
        go_wp2_with fail
        refine (rday_no _ _ HDay.out).mono ?_
        rintro e w' ⟨rfl, rfl⟩
        go_wp2_with fail
        go_ret
        exact ⟨rfl, hB4⟩
      case refine_3 =>
        clear key
        subst h
        subst g
        have e1 := Lib.hid (cmpV_eq (a := x) (b := b) (c := x) (d := b) rfl rfl)
        have e2 := e1
        have hlt1 : w.heap.size < wc.heap.size := hA.lt
        go_wp2_with fail
        refine (compare_any _ _ _ _ _).mono ?_
        rintro e w2 ⟨rfl, hb2⟩
        rw [e1.out]
        have hA2 := hA.below hb2 hlt1
        have hC2 := hC.below hb2 hlt
        have hB2 := bstep hB hb2
        clear a0 a1 a2 a3 c0 c1 c2 c3 hA hC hB hb2
        obtain ⟨a0, a1, a2, a3⟩ := hA2.two
        obtain ⟨c0, c1, c2, c3⟩ := hC2.two
        go_wp2_with fail
        refine (compare_any _ _ _ _ _).mono ?_
        rintro e w3 ⟨rfl, hb3⟩
        rw [e2.out]
        have hA3 := hA2.below hb3 hA2.lt
        have hB3 := bstep hB2 hb3
        clear a0 a1 a2 a3 c0 c1 c2 c3 hA2 hC2 hB2 hb3
        obtain ⟨a0, a1, a2, a3⟩ := hA3.two
        go_wp2_with fail
        refine (Q1.out _).mono ?_
        rintro e w4 ⟨rfl, hb4⟩
        have hA4 := hA3.below hb4 hA3.lt
        have hB4 := bstep hB3 hb4
        clear a0 a1 a2 a3 hA3 hB3 hb4
        obtain ⟨a0, a1, a2, a3⟩ := hA4.two
        go_wp2_with fail
        refine (rday_no _ _ HDay.out).mono ?_
        rintro e w' ⟨rfl, rfl⟩
        go_wp2_with fail
        go_ret
        exact ⟨rfl, hB4⟩
      case refine_4 =>
        clear key
        subst h
        have e1 := Lib.hid (cmpV_gt (a := x) (b := b) (c := x) (d := d) (by omega) (by omega))
        have e2 := Lib.hid (cmpV_lt (a := x) (b := d) (c := x) (d := b) (Or.inr ⟨rfl, g⟩))
        have hbd : (b == d) = false := by rw [beq_eq_false_iff_ne]; omega
        have hlt1 : w.heap.size < wc.heap.size := hA.lt
        go_wp2_with fail
        refine (compare_any _ _ _ _ _).mono ?_
        rintro e w2 ⟨rfl, hb2⟩
        rw [e1.out]
        have hA2 := hA.below hb2 hlt1
        have hC2 := hC.below hb2 hlt
        have hB2 := bstep hB hb2
        clear a0 a1 a2 a3 c0 c1 c2 c3 hA hC hB hb2
        obtain ⟨a0, a1, a2, a3⟩ := hA2.two
        obtain ⟨c0, c1, c2, c3⟩ := hC2.two
        go_wp2_with fail
        refine (compare_any _ _ _ _ _).mono ?_
        rintro e w3 ⟨rfl, hb3⟩
        rw [e2.out]
        have hA3 := hA2.below hb3 hA2.lt
        have hB3 := bstep hB2 hb3
        clear a0 a1 a2 a3 c0 c1 c2 c3 hA2 hC2 hB2 hb3
        obtain ⟨a0, a1, a2, a3⟩ := hA3.two
        go_wp2_with fail
        refine (Q1.out _).mono ?_
        rintro e w4 ⟨rfl, hb4⟩
        have hA4 := hA3.below hb4 hA3.lt
        have hB4 := bstep hB3 hb4
        clear a0 a1 a2 a3 hA3 hB3 hb4
        obtain ⟨a0, a1, a2, a3⟩ := hA4.two
        go_wp2_with fail
        refine (rday_no _ _ HDay.out).mono ?_
        rintro e w' ⟨rfl, rfl⟩
        go_wp2_with fail
        go_ret
        exact ⟨rfl, hB4⟩
      case refine_5 =>
        clear key
        have e1 := Lib.hid (cmpV_gt (a := x) (b := b) (c := z) (d := d) (by omega) (by omega))
        have e2 := Lib.hid (cmpV_lt (a := z) (b := d) (c := x) (d := b) (Or.inl h))
        have hxz : (x == z) = false := by rw [beq_eq_false_iff_ne]; omega
        have hlt1 : w.heap.size < wc.heap.size := hA.lt
        go_wp2_with fail
        refine (compare_any _ _ _ _ _).mono ?_
        rintro e w2 ⟨rfl, hb2⟩
        rw [e1.out]
        have hA2 := hA.below hb2 hlt1
        have hC2 := hC.below hb2 hlt
        have hB2 := bstep hB hb2
        clear a0 a1 a2 a3 c0 c1 c2 c3 hA hC hB hb2
        obtain ⟨a0, a1, a2, a3⟩ := hA2.two
        obtain ⟨c0, c1, c2, c3⟩ := hC2.two
        go_wp2_with fail
        refine (compare_any _ _ _ _ _).mono ?_
        rintro e w3 ⟨rfl, hb3⟩
        rw [e2.out]
        have hA3 := hA2.below hb3 hA2.lt
        have hB3 := bstep hB2 hb3
        clear a0 a1 a2 a3 c0 c1 c2 c3 hA2 hC2 hB2 hb3
        obtain ⟨a0, a1, a2, a3⟩ := hA3.two
        go_wp2_with fail
        refine (Q1.out _).mono ?_
        rintro e w4 ⟨rfl, hb4⟩
        have hA4 := hA3.below hb4 hA3.lt
        have hB4 := bstep hB3 hb4
        clear a0 a1 a2 a3 hA3 hB3 hb4
        obtain ⟨a0, a1, a2, a3⟩ := hA4.two
        go_wp2_with fail
        refine (rday_no _ _ HDay.out).mono ?_
        rintro e w' ⟨rfl, rfl⟩
        go_wp2_with fail
        go_ret
        exact ⟨rfl, hB4⟩
end Go.Proofs.Ytajebigjcggnfaa
