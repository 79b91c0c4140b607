/- The walks of the laws DateWeekdays and DateAddMonths. -/
import Derived.Test.YtajebigjcggnfaaKnown
import Derived.OpenShut
namespace Go.Proofs.Ytajebigjcggnfaa
open Go.RowKit
set_option linter.unusedVariables false
attribute [local go_sem ↓] Go.wp_at_zero Go.wp_at_succ

theorem u64_rem2 (n : Int) : 0 ≤ wrap64 ((IntKind.u64.wrap n).tmod 73048) ∧ wrap64 ((IntKind.u64.wrap n).tmod 73048) ≤ 73047 := by
  have h : 0 ≤ IntKind.u64.wrap n := by rw [IntKind.wrap_u64]; exact Int.emod_nonneg _ (by decide)
  generalize IntKind.u64.wrap n = m at *
  rw [Int.tmod_eq_emod_of_nonneg h, IntWalk.wrap64_in _ (by omega)]
  omega

set_option maxHeartbeats 2000000 in
theorem dateWeekdays_walk (a : Int) (wa : (Lit.int .i64 a).wf = true) (w : World) :
    Calls Try.prog 9 #[.int .i64 a] w fun e w' => e = .returned (.bool true) ∧ Below w.heap.size w w' := by
  have ba := bounds_i64 wa
  clear wa
  by_cases hneg : 0 ≤ a
  case' pos =>
    go_enter Try.func9, Try.ntmps9
    go_wp2_with fail
    refine (known_ok _).mono ?_
    rintro e w1 ⟨rfl, hb1⟩
    go_wp2_with fail
    have hx : 0 ≤ a % 73048 ∧ a % 73048 ≤ 73047 := by omega
    generalize a % 73048 = n at *
  case' neg =>
    go_enter Try.func9, Try.ntmps9
    go_wp2_with fail
    refine (known_ok _).mono ?_
    rintro e w1 ⟨rfl, hb1⟩
    go_wp2_with fail
    have hx := u64_rem2 a
    generalize wrap64 ((IntKind.u64.wrap a).tmod 73048) = n at *
  all_goals
    clear ba hneg
    obtain ⟨x1, x2⟩ := hx
    have hwr : wrap64 (n + 1) = n + 1 := IntWalk.wrap64_in _ (by omega)
    try rw [hwr]
    clear hwr
    obtain ⟨y, m, d, hv, hn⟩ := Cal.exists_date n x1 (by omega)
    have q1 := fun W => wday (n + 1) W (by omega) (by omega)
    rw [show Cal.wd (n + 1) = (Cal.wd n + 1) % 7 from by unfold Cal.wd; omega] at q1
    have q2 := fun W => wday n W x1 (by omega)
    have q3 := fun W => to_ok n y m d W hv hn
    have wd0 : 0 ≤ Cal.wd n ∧ Cal.wd n ≤ 6 := by unfold Cal.wd; omega
    have Q1 := Lib.hid q1
    have Q2 := Lib.hid q2
    have Q3 := Lib.hid q3
    have HV := Lib.hid hv
    have HN := Lib.hid hn
    obtain ⟨v1, v2, -⟩ := hv
    clear q1 q2 q3 hn
    by_cases hy : y ≤ 2071
    · obtain ⟨l1, l2⟩ := Cal.later HV.out hy
      rw [HN.out] at l2
      have q4 := fun W => from_ok (y + 28) m d W l1
      rw [l2] at q4
      have q5 := fun W => wday (n + 10227) W (by omega) (by have := (Cal.num_range l1).2; omega)
      rw [show Cal.wd (n + 10227) = Cal.wd n from by unfold Cal.wd; omega] at q5
      have Q4 := Lib.hid q4
      have Q5 := Lib.hid q5
      clear q4 q5 l1 l2
      generalize Cal.wd n = D at *
      go_wp2_with fail
      refine (Q1.out _).mono ?_
      rintro e w' ⟨rfl, rfl⟩
      go_wp2_with fail
      refine (Q2.out _).mono ?_
      rintro e w' ⟨rfl, rfl⟩
      go_wp2_with fail
      refine (Q3.out _).mono ?_
      rintro e w2 ⟨rfl, hb2⟩
      have hB2 := (bstep hb1 hb2).alloc (by have := hb1.size; have := hb2.size; omega) (Obj.cells #[Value.int IntKind.i64 (y + 28), Value.int IntKind.i64 m, Value.int IntKind.i64 d] 26)
      go_wp2_with fail
      refine (Q4.out _).mono ?_
      rintro e w3 ⟨rfl, hb3⟩
      go_wp2_with fail
      refine (Q5.out _).mono ?_
      rintro e w' ⟨rfl, rfl⟩
      go_wp2_with fail
      refine (Q2.out _).mono ?_
      rintro e w' ⟨rfl, rfl⟩
      go_wp2_with fail
      go_ret
      exact ⟨by simp, bstep hB2 hb3⟩
    · generalize Cal.wd n = D at *
      go_wp2_with fail
      refine (Q1.out _).mono ?_
      rintro e w' ⟨rfl, rfl⟩
      go_wp2_with fail
      refine (Q2.out _).mono ?_
      rintro e w' ⟨rfl, rfl⟩
      go_wp2_with fail
      refine (Q3.out _).mono ?_
      rintro e w2 ⟨rfl, hb2⟩
      go_wp2_with fail
      go_ret
      exact ⟨rfl, (bstep hb1 hb2).alloc (by have := hb1.size; have := hb2.size; omega) _⟩

/-- the law at a valid day, by what the two AddMonths give -/
def AM (n k r er want : Int) (is : Bool) : Prop :=
  (∀ W, Calls Try.prog 35 #[.int .i64 n, .int .i64 k] W fun e w' => e = .returned (.tuple #[.int .i64 r, .int .i64 er]) ∧ Below W.heap.size W w') ∧
  (∀ W, Calls Try.prog 37 #[.int .i64 n, .int .i64 k] W fun e w' => e = .returned (.tuple #[.int .i64 want, .bool is]) ∧ Below W.heap.size W w')
theorem am_cases (n k y m d : Int) (hv : Cal.vld y m d) (hn : Cal.num y m d = n) : (∃ r, AM n k r 0 r true) ∨ AM n k 0 2 0 false := by
  have hi := Cal.idx_bd hv
  by_cases c : -2400 ≤ k ∧ k ≤ 2400 ∧ 0 ≤ Cal.idx y m + k ∧ Cal.idx y m + k ≤ 2399
  · refine .inl ⟨Cal.tgt d (Cal.idx y m + k), fun W => add_any n y m d k W hv hn c.1 c.2.1 c.2.2.1 c.2.2.2, fun W => ?_⟩
    exact (radd_any n y m d k W hv hn (by omega) (by omega)).mono fun e w' h => ⟨h.1 ⟨c.2.2.1, c.2.2.2⟩, h.2.2⟩
  · refine .inr ⟨fun W => add_no n y m d k W hv hn c, fun W => ?_⟩
    by_cases f : k < -3000 ∨ 3000 < k
    · exact (radd_far n k W f).mono fun e w' h => ⟨h.1, by rw [h.2]; exact Below.refl _ _⟩
    · exact (radd_any n y m d k W hv hn (by omega) (by omega)).mono fun e w' h => ⟨h.2.1 (by omega), h.2.2⟩

set_option maxHeartbeats 2000000 in
theorem dateAddMonths_walk (a : Int) (wa : (Lit.int .i64 a).wf = true) (k : Int) (wk : (Lit.int .i64 k).wf = true) (w : World) :
    Calls Try.prog 10 #[.int .i64 a, .int .i64 k] w fun e w' => e = .returned (.bool true) ∧ Below w.heap.size w w' := by
  have ba := Lib.hid (bounds_i64 wa)
  clear wa wk
  go_enter Try.func10, Try.ntmps10
  go_wp2_with fail
  refine (known_ok _).mono ?_
  rintro e w1 ⟨rfl, hb1⟩
  go_wp2_with fail
  refine (day_any _ _ ba.out.1 ba.out.2).mono ?_
  rintro e w' ⟨n, rfl, n1, n2, rfl⟩
  by_cases hx : 0 ≤ n ∧ n ≤ 73048
  · obtain ⟨x1, x2⟩ := hx
    obtain ⟨y, m, d, hv, hn⟩ := Cal.exists_date n x1 x2
    have hL := Cal.len_bd y m hv.2.2.1 hv.2.2.2.1
    have hlast : Cal.vld y m (Cal.len y m) := ⟨hv.1, hv.2.1, hv.2.2.1, hv.2.2.2.1, by omega, by omega⟩
    have q1 := fun W => eom n y m d W hv hn
    have q2 := fun W => rto n y m d W hv hn
    have q3 := fun W => rlen y m W hv.1 hv.2.1 hv.2.2.1 hv.2.2.2.1
    have q4 := fun W => rfrom y m (Cal.len y m) W hlast
    have am := am_cases n k y m d hv hn
    have Q1 := Lib.hid q1
    have Q2 := Lib.hid q2
    have Q3 := Lib.hid q3
    have Q4 := Lib.hid q4
    clear q1 q2 q3 q4 hL hlast hn hv
    generalize Cal.num y m (Cal.len y m) = E at *
    generalize Cal.len y m = L at *
    obtain ⟨r, er, want, is, hcs, ha, hr⟩ : ∃ r er want is, ((is = true ∧ er = 0 ∧ r = want) ∨ (is = false ∧ er = 2 ∧ r = 0)) ∧ (∀ W, Calls Try.prog 35 #[.int .i64 n, .int .i64 k] W fun e w' => e = .returned (.tuple #[.int .i64 r, .int .i64 er]) ∧ Below W.heap.size W w') ∧
        (∀ W, Calls Try.prog 37 #[.int .i64 n, .int .i64 k] W fun e w' => e = .returned (.tuple #[.int .i64 want, .bool is]) ∧ Below W.heap.size W w') := by
      rcases am with ⟨r, h⟩ | h
      · exact ⟨r, 0, r, true, .inl ⟨rfl, rfl, rfl⟩, h.1, h.2⟩
      · exact ⟨0, 2, 0, false, .inr ⟨rfl, rfl, rfl⟩, h.1, h.2⟩
    have HA := Lib.hid ha
    have HR := Lib.hid hr
    clear ha hr am
    rcases hcs with ⟨rfl, rfl, rfl⟩ | ⟨rfl, rfl, rfl⟩
    all_goals
      go_wp2_with fail
      refine (HA.out _).mono ?_
      rintro e w2 ⟨rfl, hb2⟩
      go_wp2_with fail
      refine (Q1.out _).mono ?_
      rintro e w3 ⟨rfl, hb3⟩
      go_wp2_with fail
      refine (rday_yes _ _ x1 x2).mono ?_
      rintro e w' ⟨rfl, rfl⟩
      go_wp2_with fail
      refine (Q2.out _).mono ?_
      rintro e w4 ⟨rfl, hb4⟩
      have hB4 := bstep (bstep (bstep hb1 hb2) hb3) hb4
      have hs4 := hB4.size
      go_wp2_with fail
      refine (Q3.out _).mono ?_
      rintro e w' ⟨rfl, rfl⟩
      have hB5 := hB4.alloc hs4 (Obj.cells #[Value.int IntKind.i64 y, Value.int IntKind.i64 m, Value.int IntKind.i64 L] 32)
      clear hb1 hb2 hb3 hb4
      go_wp2_with fail
      refine (Q4.out _).mono ?_
      rintro e w6 ⟨rfl, hb6⟩
      have hB6 := bstep hB5 hb6
      go_wp2_with fail
      refine (HR.out _).mono ?_
      rintro e w7 ⟨rfl, hb7⟩
      go_wp2_with fail
      go_ret
      exact ⟨by simp, bstep hB6 hb7⟩
  · have hv2 : n < 0 ∨ 73048 < n := by omega
    have HV := Lib.hid hv2
    clear hx hv2
    go_wp2_with fail
    refine (add_bad _ _ _ HV.out).mono ?_
    rintro e w2 ⟨rfl, hb2⟩
    go_wp2_with fail
    refine (eom_bad _ _ HV.out).mono ?_
    rintro e w3 ⟨rfl, hb3⟩
    go_wp2_with fail
    refine (rday_no _ _ HV.out).mono ?_
    rintro e w' ⟨rfl, rfl⟩
    go_wp2_with fail
    go_ret
    exact ⟨rfl, bstep (bstep hb1 hb2) hb3⟩
end Go.Proofs.Ytajebigjcggnfaa
