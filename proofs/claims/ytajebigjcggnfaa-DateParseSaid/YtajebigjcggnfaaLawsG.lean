/- The walk of the law DateParse. -/
import Derived.Test.YtajebigjcggnfaaOrder
import Derived.OpenShut
namespace Go.Proofs.Ytajebigjcggnfaa
open Go.RowKit
set_option linter.unusedVariables false
attribute [local go_sem ↓] Go.wp_at_zero Go.wp_at_succ

/-- what the four parsers give at a text: the same numbers and errors -/
theorem parse_cases (s : ByteArray) (hs : s.size ≤ maxLen) :
    ∃ n e : Int, (∀ W, Calls Try.prog 33 #[.string s] W fun x w' => x = .returned (.tuple #[.int .i64 n, .int .i64 e]) ∧ Below W.heap.size W w') ∧
      (∀ W, Calls Try.prog 38 #[.string s] W fun x w' => x = .returned (.tuple #[.int .i64 n, .int .i64 e]) ∧ Below W.heap.size W w') ∧
      ((e = 0 ∧ ∀ W, Calls Try.prog 32 #[.int .i64 n] W fun x w' => x = .returned (.tuple #[.string s, .int .i64 0]) ∧ Below W.heap.size W w') ∨ e = 3 ∨ e = 28) := by
  by_cases hf : Fits s f10
  · by_cases hv : Cal.vld (nAt s 0 4) (nAt s 5 2) (nAt s 8 2)
    · refine ⟨Cal.num (nAt s 0 4) (nAt s 5 2) (nAt s 8 2), 0, fun W => parse_fit s _ _ _ _ 0 W hf rfl rfl rfl (fun W' => from_ok _ _ _ W' hv), fun W => (rparse_fit s _ _ _ W hf rfl rfl rfl).1 hv, .inl ⟨rfl, fun W => ?_⟩⟩
      have := format_ok _ _ _ _ W hv rfl
      rwa [text_back hf] at this
    · exact ⟨0, 28, fun W => parse_fit s _ _ _ _ 28 W hf rfl rfl rfl (fun W' => from_no _ _ _ W' hv), fun W => (rparse_fit s _ _ _ W hf rfl rfl rfl).2 hv, .inr (.inr rfl)⟩
  · exact ⟨0, 3, fun W => parse_nf s W hs hf, fun W => rparse_nf s W hs hf, .inr (.inl rfl)⟩

theorem pclock_cases (s : ByteArray) (hs : s.size ≤ maxLen) :
    ∃ n mi e : Int, (∀ W, Calls Try.prog 39 #[.string s] W fun x w' => x = .returned (.tuple #[.agg #[.int .i64 n, .int .i64 mi], .int .i64 e]) ∧ Below W.heap.size W w') ∧
      (∀ W, Calls Try.prog 40 #[.string s] W fun x w' => x = .returned (.tuple #[.int .i64 n, .int .i64 mi, .int .i64 e]) ∧ Below W.heap.size W w') ∧
      ((e = 0 ∧ ∀ W, Calls Try.prog 41 #[.agg #[.int .i64 n, .int .i64 mi]] W fun x w' => x = .returned (.tuple #[.string s, .int .i64 0]) ∧ Below W.heap.size W w') ∨ e = 3 ∨ e = 28 ∨ e = 2) := by
  by_cases hf : Fits s f16
  · by_cases hv : Cal.vld (nAt s 0 4) (nAt s 5 2) (nAt s 8 2)
    · by_cases hc : nAt s 11 2 ≤ 23 ∧ nAt s 14 2 ≤ 59
      · refine ⟨_, _, 0, fun W => (pclock_ok s _ _ _ _ _ W hf rfl rfl rfl rfl rfl hv).mono fun x w' h => ⟨h.1 hc, h.2.2⟩, fun W => (rpclock_ok s _ _ _ _ _ W hf rfl rfl rfl rfl rfl hv).mono fun x w' h => ⟨h.1 hc, h.2.2⟩, .inl ⟨rfl, fun W => ?_⟩⟩
        obtain ⟨hsz, -, -, -, d4, d5, -⟩ := fits16 hf
        have b4 := nAt_bd2 (s := s) (a := 11) (by omega) d4
        have b5 := nAt_bd2 (s := s) (a := 14) (by omega) d5
        have := fclock_ok _ _ _ _ (60 * nAt s 11 2 + nAt s 14 2) W hv rfl (by omega) (by omega)
        rwa [ctext_back hf hc.1 hc.2] at this
      · exact ⟨0, 0, 2, fun W => (pclock_ok s _ _ _ _ _ W hf rfl rfl rfl rfl rfl hv).mono fun x w' h => ⟨h.2.1 hc, h.2.2⟩, fun W => (rpclock_ok s _ _ _ _ _ W hf rfl rfl rfl rfl rfl hv).mono fun x w' h => ⟨h.2.1 hc, h.2.2⟩, .inr (.inr (.inr rfl))⟩
    · exact ⟨0, 0, 28, fun W => pclock_fit s _ _ _ _ _ W hf rfl rfl rfl rfl rfl hv, fun W => rpclock_nd s _ _ _ W hf rfl rfl rfl hv, .inr (.inr (.inl rfl))⟩
  · exact ⟨0, 0, 3, fun W => pclock_nf s W hs hf, fun W => rpclock_nf s W hs hf, .inr (.inl rfl)⟩

set_option maxRecDepth 100000 in
set_option maxHeartbeats 2000000 in
theorem dateParse_walk (s : ByteArray) (hs : s.size ≤ maxLen) (w : World) :
    Calls Try.prog 11 #[.string s] w fun e w' => e = .returned (.bool true) ∧ Below w.heap.size w w' := by
  obtain ⟨n, e, q1, q2, q3⟩ := parse_cases s hs
  obtain ⟨cn, cm, ce, q4, q5, q6⟩ := pclock_cases s hs
  have Q1 := Lib.hid q1
  have Q2 := Lib.hid q2
  have Q4 := Lib.hid q4
  have Q5 := Lib.hid q5
  clear q1 q2 q4 q5 hs
  have hcase : (e = 0 ∧ ∀ W, Calls Try.prog 32 #[.int .i64 n] W fun x w' => x = .returned (.tuple #[.string s, .int .i64 0]) ∧ Below W.heap.size W w') ∨ ((e == 0) = false ∧ ce = 0 ∧ ∀ W, Calls Try.prog 41 #[.agg #[.int .i64 cn, .int .i64 cm]] W fun x w' => x = .returned (.tuple #[.string s, .int .i64 0]) ∧ Below W.heap.size W w') ∨ ((e == 0) = false ∧ (ce == 0) = false) := by
    rcases q3 with h | h | h
    · exact .inl h
    · rcases q6 with g | g | g | g
      · exact .inr (.inl ⟨by rw [h]; rfl, g⟩)
      · exact .inr (.inr ⟨by rw [h]; rfl, by rw [g]; rfl⟩)
      · exact .inr (.inr ⟨by rw [h]; rfl, by rw [g]; rfl⟩)
      · exact .inr (.inr ⟨by rw [h]; rfl, by rw [g]; rfl⟩)
    · rcases q6 with g | g | g | g
      · exact .inr (.inl ⟨by rw [h]; rfl, g⟩)
      · exact .inr (.inr ⟨by rw [h]; rfl, by rw [g]; rfl⟩)
      · exact .inr (.inr ⟨by rw [h]; rfl, by rw [g]; rfl⟩)
      · exact .inr (.inr ⟨by rw [h]; rfl, by rw [g]; rfl⟩)
  clear q3 q6
  rcases hcase with ⟨rfl, q7⟩ | ⟨he, rfl, q7⟩ | ⟨he, hce⟩
  · have Q7 := Lib.hid q7
    clear q7
    go_enter Try.func11, Try.ntmps11
    go_wp2_with fail
    refine (known_ok _).mono ?_
    rintro e w1 ⟨rfl, hb1⟩
    go_wp2_with fail
    refine (Q1.out _).mono ?_
    rintro e w2 ⟨rfl, hb2⟩
    go_wp2_with fail
    refine (Q2.out _).mono ?_
    rintro e w3 ⟨rfl, hb3⟩
    go_wp2_with fail
    refine (Q4.out _).mono ?_
    rintro e w4 ⟨rfl, hb4⟩
    have hB4 := bstep (bstep (bstep hb1 hb2) hb3) hb4
    clear hb1 hb2 hb3 hb4
    go_wp2_with fail
    refine (Q5.out _).mono ?_
    rintro e w5 ⟨rfl, hb5⟩
    have hC := (At.new w4 56 #[.int .i64 cn, .int .i64 cm]).below hb5 (by simp)
    have k0 := hC.cell 0
    have k1 := hC.cell 1
    simp at k0 k1
    have hB5 := bstep (hB4.alloc hB4.size _) hb5
    clear hb5 hB4
    go_wp2_with fail
    refine (Q7.out _).mono ?_
    rintro e w6 ⟨rfl, hb6⟩
    go_wp2_with fail
    go_ret
    exact ⟨by simp, bstep hB5 hb6⟩
  · have Q7 := Lib.hid q7
    clear q7
    go_enter Try.func11, Try.ntmps11
    go_wp2_with fail
    refine (known_ok _).mono ?_
    rintro e w1 ⟨rfl, hb1⟩
    go_wp2_with fail
    refine (Q1.out _).mono ?_
    rintro e w2 ⟨rfl, hb2⟩
    go_wp2_with fail
    refine (Q2.out _).mono ?_
    rintro e w3 ⟨rfl, hb3⟩
    go_wp2_with fail
    refine (Q4.out _).mono ?_
    rintro e w4 ⟨rfl, hb4⟩
    have hB4 := bstep (bstep (bstep hb1 hb2) hb3) hb4
    clear hb1 hb2 hb3 hb4
    go_wp2_with fail
    refine (Q5.out _).mono ?_
    rintro e w5 ⟨rfl, hb5⟩
    have hC := (At.new w4 56 #[.int .i64 cn, .int .i64 cm]).below hb5 (by simp)
    have k0 := hC.cell 0
    have k1 := hC.cell 1
    simp at k0 k1
    have hB5 := bstep (hB4.alloc hB4.size _) hb5
    clear hb5 hB4
    go_wp2_with fail
    refine (Q7.out _).mono ?_
    rintro e w6 ⟨rfl, hb6⟩
    go_wp2_with fail
    go_ret
    exact ⟨by simp, bstep hB5 hb6⟩
  · go_enter Try.func11, Try.ntmps11
    go_wp2_with fail
    refine (known_ok _).mono ?_
    rintro e w1 ⟨rfl, hb1⟩
    go_wp2_with fail
    refine (Q1.out _).mono ?_
    rintro e w2 ⟨rfl, hb2⟩
    go_wp2_with fail
    refine (Q2.out _).mono ?_
    rintro e w3 ⟨rfl, hb3⟩
    go_wp2_with fail
    refine (Q4.out _).mono ?_
    rintro e w4 ⟨rfl, hb4⟩
    have hB4 := bstep (bstep (bstep hb1 hb2) hb3) hb4
    clear hb1 hb2 hb3 hb4
    go_wp2_with fail
    refine (Q5.out _).mono ?_
    rintro e w5 ⟨rfl, hb5⟩
    have hC := (At.new w4 56 #[.int .i64 cn, .int .i64 cm]).below hb5 (by simp)
    have k0 := hC.cell 0
    have k1 := hC.cell 1
    simp at k0 k1
    have hB5 := bstep (hB4.alloc hB4.size _) hb5
    clear hb5 hB4
    go_wp2_with fail
    go_ret
    exact ⟨rfl, hB5⟩
end Go.Proofs.Ytajebigjcggnfaa
