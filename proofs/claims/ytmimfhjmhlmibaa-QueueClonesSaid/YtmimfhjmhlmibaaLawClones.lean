/- The walk of the law QueueClones. -/
import Derived.Test.YtmimfhjmhlmibaaLawOps
import Derived.Test.YtmimfhjmhlmibaaMClone
namespace Go.Proofs.Ytmimfhjmhlmibaa
open Go.RowKit Go.MapKept Go.ChangeMaps
set_option linter.unusedVariables false
attribute [local go_sem ↓] Go.wp_at_zero Go.wp_at_succ

/-- a queue apart from what lies below the mark, with a list of the reference's -/
def Apart (w1 : World) (c : Nat) (v : Value) (l : List E) (W : World) : Prop := ∃ g m1 m2, Both W c g m1 m2 v l ∧ (∀ r, ZQ c g m1 m2 r → w1.heap.size ≤ r) ∧ Below w1.heap.size w1 W ∧ w1.heap.size ≤ W.heap.size
theorem Apart.below {w1 : World} {c : Nat} {v : Value} {l : List E} {W W' : World} (h : Apart w1 c v l W) (hb : Below W.heap.size W W') : Apart w1 c v l W' := by
  obtain ⟨g, m1, m2, ⟨hq, hr, ho⟩, hz, hB, hs⟩ := h
  exact ⟨g, m1, m2, ⟨hq.below hb, hr.below hb, ho⟩, hz, hB.trans (hb.mono hs), Nat.le_trans hs hb.size⟩
theorem do_apart {w1 W : World} {c : Nat} {v : Value} {l : List E} (k : Int) (x : E) (h : Apart w1 c v l W) (hl : l.length ≤ 60000) (hk0 : 0 ≤ k) (hk1 : k ≤ 255) :
    Calls Try.prog 27 #[.pointer (some ⟨c, 0, none⟩), v, .agg #[.int .u8 k, .string x.id, .int .i64 x.p, .int .i64 x.s, .int .i64 x.v]] W fun e W' => ∃ v', e = .returned (.tuple #[v', .bool true]) ∧ Apart w1 c v' (stepP k x l) W' := by
  obtain ⟨g, m1, m2, hb, hz, hB, hs⟩ := h
  refine (do_any c g m1 m2 v l k x W hb hl hk0 hk1).mono ?_
  rintro e W' ⟨v', g', rfl, hb', hg', hv', hk⟩
  exact ⟨v', rfl, g', m1, m2, hb', zq_step hz hs hg', hB.trans (hk.below hs (fun r hr h => absurd (hz r h) (by omega))), Nat.le_trans hs hk.size⟩
theorem same_apart {w1 W : World} {c : Nat} {v : Value} {l : List E} (h : Apart w1 c v l W) (hl : l.length ≤ 60000) :
    Calls Try.prog 28 #[.pointer (some ⟨c, 0, none⟩), v] W fun e W' => e = .returned (.bool true) ∧ Apart w1 c v l W' := by
  have h' := h
  obtain ⟨g, m1, m2, hb, hz, hB, hs⟩ := h
  exact (same_any c g m1 m2 v l W hb hl).mono fun e W' ⟨h1, h2⟩ => ⟨h1, h'.below h2⟩
/-- the original, behind what left all below the mark -/
theorem both_later {B : Nat} {w w1 W : World} {q : Nat} {v : Value} {l : List E} (h : BothOwn B w w1 q v l) (hb : Below w1.heap.size w1 W) : ∃ g m1 m2, Both W q g m1 m2 v l := by
  obtain ⟨g, m1, m2, ⟨hq, hr, ho⟩, _⟩ := h
  exact ⟨g, m1, m2, hq.below hb, hr.below hb, ho⟩

set_option maxRecDepth 100000 in
set_option maxHeartbeats 16000000 in
theorem queueClones_walk (S : Value) (os : List (Int × E)) (S2 : Value) (more : List (Int × E)) (w : World) (h : OL w S os) (h2 : OL w S2 more) : Calls Try.prog 10 #[S, S2] w fun e w' => e = .returned (.bool true) ∧ Below w.heap.size w w' := by
  have H := Lib.hid h
  obtain ⟨SA, sn, sc, rfl⟩ : ∃ A n c, S = .slice A n c := by
    rcases h with ⟨A, cap, rfl, _⟩ | ⟨b, off, cap, rfl, _⟩
    · exact ⟨_, _, _, rfl⟩
    · exact ⟨_, _, _, rfl⟩
  clear h
  rcases h2 with ⟨A, cap, rfl, rfl⟩ | ⟨b, off, cap, rfl, hb, hlen, hcells⟩
  case' inl => have HC := Lib.hid trivial
  case' inr =>
    have HC := Lib.hid hcells
    clear hcells
  all_goals
    go_enter Try.func10, Try.ntmps10
    go_wp2_with fail
    refine (known_any _).mono ?_
    rintro e w0 ⟨rfl, hb0⟩
    go_wp2_with fail
    refine (build_any _ os w0 (H.out.below hb0)).mono ?_
    rintro e w1 ⟨q, v, rfl, hbo⟩
    have HB1 := Lib.hid (BothOwn.rebase (B := 0) hbo hb0)
    have hlf := length_foldP os [] 60
    simp only [List.length_nil] at hlf
    clear hbo hb0
    generalize foldP 60 os [] = L at *
    have HLF := Lib.hid (show L.length ≤ 60 by omega)
    clear hlf
    go_wp2_with fail
    obtain ⟨g, m1, m2, ⟨hq, hrl, hoff⟩, hz, hv, hB, hs⟩ := HB1.out
    refine (qclone_any q g m1 m2 L w1 hq (by have := HLF.out; omega)).mono ?_
    rintro e w2 ⟨c, rfl, gc, m1c, m2c, hqc, hzc, hBc, hsc⟩
    have HA : Hid (Apart w1 c v L w2) := Lib.hid ⟨gc, m1c, m2c, ⟨hqc, hrl.below hBc, fun b hb' z => by have := hrl.lt b hb'; have := hzc b z; omega⟩, hzc, hBc, hsc⟩
    clear hq hrl hoff hz hv hB hs hqc hzc hBc hsc
    go_wp2_with fail
    refine (same_apart HA.out (by have := HLF.out; omega)).mono ?_
    rintro e w3 ⟨rfl, ha3⟩
    have HA3 := Lib.hid ha3
    clear ha3
    go_wp2_with fail
  rotate_left
  · go_loop [8, 9] (fun t8 t => t8 = v ∧ t = .int .i64 0) (fun _ t => 0)
    case atStart => exact ⟨rfl, rfl⟩
    case round =>
      obtain ⟨rfl, rfl⟩ := hrel
      go_wp2_with fail
      refine (same_apart HA3.out (by have := HLF.out; omega)).mono ?_
      rintro e w4 ⟨rfl, ha4⟩
      have HA4 := Lib.hid ha4
      clear ha4
      go_wp2_with fail
      obtain ⟨_, _, _, _, _, hB4, _⟩ := HA4.out
      obtain ⟨g', m1', m2', hb4⟩ := both_later HB1.out hB4
      have HBB := Lib.hid hb4
      have HB4 := Lib.hid (bstep HB1.out.base.1 hB4)
      clear hb4 hB4
      refine (same_any q g' m1' m2' _ L w4 HBB.out (by have := HLF.out; omega)).mono ?_
      rintro e w5 ⟨rfl, hb5⟩
      go_wp2_with fail
      refine (known_any _).mono ?_
      rintro e w6 ⟨rfl, hb6⟩
      go_wp2_with fail
      go_ret
      exact ⟨rfl, bstep (bstep HB4.out hb5) hb6⟩
  · go_loopw [8, 9] (fun t8 t9 wr => ∃ k : Nat, k ≤ more.length ∧ k ≤ 60 ∧ t9 = .int .i64 (k : Int) ∧ Apart w1 c t8 (foldP k more L) wr) (fun _ t9 _ => 60 - (intOf t9).toNat)
    case atStart => exact ⟨0, by omega, by omega, rfl, by rw [foldP_zero]; exact HA3.out⟩
    case round =>
      obtain ⟨k, hk, hk60, rfl, hap⟩ := hrel
      have HAP := Lib.hid hap
      clear hap
      have hlf := length_foldP more L k
      have HLK := Lib.hid (show (foldP k more L).length ≤ 60000 by have := HLF.out; omega)
      clear hlf
      by_cases hgo : k < more.length ∧ k < 60
      · obtain ⟨hlt, h60⟩ := hgo
        obtain ⟨a1, a2, c0, c1, c2, c3, c4⟩ := HC.out k hlt
        have hB : Below w.heap.size w wr := by
          obtain ⟨_, _, _, _, _, hB, _⟩ := HAP.out
          exact bstep HB1.out.base.1 hB
        have d0 := (hB.cell (p := ⟨b, off + k * 5, none⟩) hb).trans c0
        have d1 := (hB.cell (p := ⟨b, off + k * 5 + 1, none⟩) hb).trans c1
        have d2 := (hB.cell (p := ⟨b, off + k * 5 + 2, none⟩) hb).trans c2
        have d3 := (hB.cell (p := ⟨b, off + k * 5 + 3, none⟩) hb).trans c3
        have d4 := (hB.cell (p := ⟨b, off + k * 5 + 4, none⟩) hb).trans c4
        have b0 : (0 : Int) ≤ (k : Int) := by omega
        have b1 : (k : Int) < (more.length : Int) := by omega
        clear c0 c1 c2 c3 c4 hB
        go_wp2_with fail
        refine (do_apart more[k].1 more[k].2 HAP.out HLK.out a1 a2).mono ?_
        rintro e w4 ⟨v', rfl, h4⟩
        have H4 := Lib.hid h4
        clear h4
        go_wp2_with fail
        go_roundw
        case rel => exact ⟨k + 1, by omega, by omega, by go_num, by rw [foldP_succ more L k hlt]; exact H4.out⟩
        case measure => simp [intOf]; omega
      · by_cases hlt : k < more.length
        · obtain rfl : k = 60 := by omega
          go_wp2_with fail
          refine (same_apart HAP.out HLK.out).mono ?_
          rintro e w4 ⟨rfl, ha4⟩
          have HA4 := Lib.hid ha4
          clear ha4
          go_wp2_with fail
          obtain ⟨_, _, _, _, _, hB4, _⟩ := HA4.out
          obtain ⟨g', m1', m2', hb4⟩ := both_later HB1.out hB4
          have HBB := Lib.hid hb4
          have HB4 := Lib.hid (bstep HB1.out.base.1 hB4)
          clear hb4 hB4
          refine (same_any q g' m1' m2' _ L w4 HBB.out (by have := HLF.out; omega)).mono ?_
          rintro e w5 ⟨rfl, hb5⟩
          go_wp2_with fail
          refine (known_any _).mono ?_
          rintro e w6 ⟨rfl, hb6⟩
          go_wp2_with fail
          go_ret
          exact ⟨rfl, bstep (bstep HB4.out hb5) hb6⟩
        · have hd : decide (k < more.length) = false := decide_eq_false (by omega)
          go_wp2_with fail
          refine (same_apart HAP.out HLK.out).mono ?_
          rintro e w4 ⟨rfl, ha4⟩
          have HA4 := Lib.hid ha4
          clear ha4
          go_wp2_with fail
          obtain ⟨_, _, _, _, _, hB4, _⟩ := HA4.out
          obtain ⟨g', m1', m2', hb4⟩ := both_later HB1.out hB4
          have HBB := Lib.hid hb4
          have HB4 := Lib.hid (bstep HB1.out.base.1 hB4)
          clear hb4 hB4
          refine (same_any q g' m1' m2' _ L w4 HBB.out (by have := HLF.out; omega)).mono ?_
          rintro e w5 ⟨rfl, hb5⟩
          go_wp2_with fail
          refine (known_any _).mono ?_
          rintro e w6 ⟨rfl, hb6⟩
          go_wp2_with fail
          go_ret
          exact ⟨rfl, bstep (bstep HB4.out hb5) hb6⟩
end Go.Proofs.Ytmimfhjmhlmibaa
