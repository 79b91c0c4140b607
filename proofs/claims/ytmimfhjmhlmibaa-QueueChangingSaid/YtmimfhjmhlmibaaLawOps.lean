/- The walk of the law QueueOperations. -/
import Derived.Test.YtmimfhjmhlmibaaSame
import Derived.Test.YtmimfhjmhlmibaaOpen
namespace Go.Proofs.Ytmimfhjmhlmibaa
open Go.RowKit Go.MapKept Go.ChangeMaps
set_option linter.unusedVariables false
attribute [local go_sem ↓] Go.wp_at_zero Go.wp_at_succ

theorem BothOwn.rebase {B : Nat} {w0 w1 w : World} {q : Nat} {v : Value} {l : List E} (h : BothOwn w1.heap.size w1 w q v l) (hb : Below w0.heap.size w0 w1) : BothOwn w0.heap.size w0 w q v l := by
  obtain ⟨g, m1, m2, hb', hz, hv, hB, hs⟩ := h
  exact ⟨g, m1, m2, hb', fun r z => Nat.le_trans hb.size (hz r z), fun b h => Nat.le_trans hb.size (hv b h), bstep hb hB, Nat.le_trans hb.size hs⟩
theorem Own.rebase {w0 w1 w : World} {q : Nat} {l : List E} (h : Own w1.heap.size w1 w q l) (hb : Below w0.heap.size w0 w1) : Own w0.heap.size w0 w q l := by
  obtain ⟨g, m1, m2, hb', hz, hB, hs⟩ := h
  exact ⟨g, m1, m2, hb', fun r z => Nat.le_trans hb.size (hz r z), bstep hb hB, Nat.le_trans hb.size hs⟩
theorem BothOwn.below {B : Nat} {w0 w w' : World} {q : Nat} {v : Value} {l : List E} (h : BothOwn B w0 w q v l) (hb : Below w.heap.size w w') : BothOwn B w0 w' q v l := by
  obtain ⟨g, m1, m2, ⟨hq, hr, ho⟩, hz, hv, hB, hs⟩ := h
  exact ⟨g, m1, m2, ⟨hq.below hb, hr.below hb, ho⟩, hz, hv, hB.trans (hb.mono hs), Nat.le_trans hs hb.size⟩
theorem BothOwn.base {B : Nat} {w0 w : World} {q : Nat} {v : Value} {l : List E} (h : BothOwn B w0 w q v l) : Below B w0 w ∧ B ≤ w.heap.size := by
  obtain ⟨g, m1, m2, _, _, _, hB, hs⟩ := h
  exact ⟨hB, hs⟩
theorem same_own {B : Nat} {w0 w : World} {q : Nat} {v : Value} {l : List E} (h : BothOwn B w0 w q v l) (hl : l.length ≤ 60000) :
    Calls Try.prog 28 #[.pointer (some ⟨q, 0, none⟩), v] w fun e w' => e = .returned (.bool true) ∧ BothOwn B w0 w' q v l := by
  have h' := h
  obtain ⟨g, m1, m2, hb, hz, hv, hB, hs⟩ := h
  exact (same_any q g m1 m2 v l w hb hl).mono fun e w' ⟨h1, h2⟩ => ⟨h1, h'.below h2⟩

set_option maxRecDepth 100000 in
set_option maxHeartbeats 8000000 in
theorem queueOperations_walk (S : Value) (os : List (Int × E)) (w : World) (h : OL w S os) : Calls Try.prog 7 #[S] w fun e w' => e = .returned (.bool true) ∧ Below w.heap.size w w' := by
  rcases h with ⟨A, cap, rfl, rfl⟩ | ⟨b, off, cap, rfl, hb, hlen, hcells⟩
  · go_enter Try.func7, Try.ntmps7
    go_wp2_with fail
    refine (known_any _).mono ?_
    rintro e w0 ⟨rfl, hb0⟩
    go_wp2_with fail
    refine (new_own _).mono ?_
    rintro e w1 ⟨q, rfl, h1⟩
    have H1 := Lib.hid (Own.rebase h1 hb0)
    clear h1 hb0
    go_wp2_with fail
    go_loop [4, 5] (fun t5 t => t5 = .slice none 0 0 ∧ t = .int .i64 0) (fun _ t => 0)
    case atStart => exact ⟨rfl, rfl⟩
    case round =>
      obtain ⟨rfl, rfl⟩ := hrel
      go_wp2_with fail
      refine (known_any _).mono ?_
      rintro e w2 ⟨rfl, hb2⟩
      go_wp2_with fail
      go_ret
      obtain ⟨_, _, _, _, _, hB, _⟩ := H1.out
      exact ⟨rfl, bstep hB hb2⟩
  · have HC := Lib.hid hcells
    clear hcells
    go_enter Try.func7, Try.ntmps7
    go_wp2_with fail
    refine (known_any _).mono ?_
    rintro e w0 ⟨rfl, hb0⟩
    go_wp2_with fail
    refine (new_own _).mono ?_
    rintro e w1 ⟨q, rfl, h1⟩
    have H1 := Lib.hid (BothOwn.start (Own.rebase h1 hb0))
    clear h1 hb0
    go_wp2_with fail
    go_loopw [4, 5] (fun t5 t6 wr => ∃ k : Nat, k ≤ os.length ∧ k ≤ 60 ∧ t6 = .int .i64 (k : Int) ∧ BothOwn w.heap.size w wr q t5 (foldP k os [])) (fun _ t6 _ => 60 - (intOf t6).toNat)
    case atStart => exact ⟨0, by omega, by omega, rfl, by rw [foldP_zero]; exact H1.out⟩
    case round =>
      obtain ⟨k, hk, hk60, rfl, hbo⟩ := hrel
      have HBO := Lib.hid hbo
      clear hbo
      by_cases hlt : k < os.length
      · by_cases h60 : k < 60
        · obtain ⟨a1, a2, c0, c1, c2, c3, c4⟩ := HC.out k hlt
          obtain ⟨hB, hs⟩ := HBO.out.base
          have d0 := (hB.cell (p := ⟨b, off + k * 5, none⟩) hb).trans c0
          have d1 := (hB.cell (p := ⟨b, off + k * 5 + 1, none⟩) hb).trans c1
          have d2 := (hB.cell (p := ⟨b, off + k * 5 + 2, none⟩) hb).trans c2
          have d3 := (hB.cell (p := ⟨b, off + k * 5 + 3, none⟩) hb).trans c3
          have d4 := (hB.cell (p := ⟨b, off + k * 5 + 4, none⟩) hb).trans c4
          have b0 : (0 : Int) ≤ (k : Int) := by omega
          have b1 : (k : Int) < (os.length : Int) := by omega
          have hlf := length_foldP os [] k
          have hls := length_stepP os[k].1 os[k].2 (foldP k os [])
          simp only [List.length_nil] at hlf
          have HLF := Lib.hid (show (foldP k os []).length ≤ 60000 by omega)
          have HLS := Lib.hid (show (stepP os[k].1 os[k].2 (foldP k os [])).length ≤ 60000 by omega)
          clear c0 c1 c2 c3 c4 hB hlf hls
          go_wp2_with fail
          refine (do_own os[k].1 os[k].2 HBO.out HLF.out a1 a2).mono ?_
          rintro e w2 ⟨v', rfl, h2⟩
          have H2 := Lib.hid h2
          clear h2
          go_wp2_with fail
          refine (same_own H2.out HLS.out).mono ?_
          rintro e w3 ⟨rfl, h3⟩
          have H3 := Lib.hid h3
          clear h3
          go_wp2_with fail
          go_roundw
          case rel => exact ⟨k + 1, by omega, by omega, by go_num, by rw [foldP_succ os [] k hlt]; exact H3.out⟩
          case measure => simp [intOf]; omega
        · obtain rfl : k = 60 := by omega
          go_wp2_with fail
          refine (known_any _).mono ?_
          rintro e w2 ⟨rfl, hb2⟩
          go_wp2_with fail
          go_ret
          exact ⟨rfl, bstep HBO.out.base.1 hb2⟩
      · have hd : decide (k < os.length) = false := decide_eq_false hlt
        go_wp2_with fail
        refine (known_any _).mono ?_
        rintro e w2 ⟨rfl, hb2⟩
        go_wp2_with fail
        go_ret
        exact ⟨rfl, bstep HBO.out.base.1 hb2⟩
end Go.Proofs.Ytmimfhjmhlmibaa
