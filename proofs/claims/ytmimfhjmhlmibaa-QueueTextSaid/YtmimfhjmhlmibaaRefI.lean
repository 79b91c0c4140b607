/- The walks of the reference's Replace and Promote. -/
import Derived.Test.YtmimfhjmhlmibaaRefH
namespace Go.Proofs.Ytmimfhjmhlmibaa
open Go.RowKit Go.MapKept Go.ChangeMaps
set_option linter.unusedVariables false
attribute [local go_sem ↓] Go.wp_at_zero Go.wp_at_succ

set_option maxRecDepth 100000 in
set_option maxHeartbeats 4000000 in
theorem rrepl_any (v : Value) (l : List E) (i : ByteArray) (a : Int) (w : World) (h : RL w v l) (hgood : Good l) (hl : l.length ≤ 60000) :
    Calls Try.prog 50 #[v, .string i, .int .i64 a] w (RT v (replP i a l).1 (replP i a l).2 w) := by
  have H := Lib.hid h
  by_cases hi : ix i l < l.length
  · have HF := Lib.hid (rfind_yes h hl hi)
    obtain ⟨g, cap, rfl, hg, hc, hm, hr⟩ := reads_of_ix h hi
    obtain ⟨c0, c1, c2, c3⟩ := hr _ hi
    have HR := Lib.hid hr
    clear h hr
    have HA := Lib.hid (show replP i a l = (insP { l[ix i l] with v := a } (remP (ix i l) l), 0) by unfold replP; rw [dif_pos hi, ins_rem hgood hi rfl])
    have hlr := length_remP hi
    generalize hX : l[ix i l] = x at *
    have HI := Lib.hid hi
    generalize ix i l = k at *
    have b0 : (0 : Int) ≤ (k : Int) := by omega
    have b1 : (k : Int) < (l.length : Int) := by omega
    have b2 : ¬ (k : Int) < 0 := by omega
    have HLR := Lib.hid hlr
    have hB0 : Below w.heap.size w (w.alloc (.cells #[.string x.id, .int .i64 x.p, .int .i64 x.s, .int .i64 a] 23)) := (Below.refl _ _).alloc (Nat.le_refl _) _
    have hK0 := At.new w 23 #[.string x.id, .int .i64 x.p, .int .i64 x.s, .int .i64 a]
    have HB0 := Lib.hid hB0
    clear hX hlr hB0
    go_enter Try.func50, Try.ntmps50
    go_wp2_with fail
    refine HF.out.mono ?_
    rintro e w' ⟨rfl, rfl⟩
    go_wp2_with fail
    generalize w.alloc (.cells #[.string x.id, .int .i64 x.p, .int .i64 x.s, .int .i64 a] 23) = w1 at *
    have k0 : w1.cell? ⟨w.heap.size, 0, none⟩ = some (.string x.id) := hK0.cell 0
    have k1 : w1.cell? ⟨w.heap.size, 1, none⟩ = some (.int .i64 x.p) := hK0.cell 1
    have k2 : w1.cell? ⟨w.heap.size, 2, none⟩ = some (.int .i64 x.s) := hK0.cell 2
    have k3 : w1.cell? ⟨w.heap.size, 3, none⟩ = some (.int .i64 a) := hK0.cell 3
    have hs2 := hK0.lt
    have HK := Lib.hid hK0
    clear hK0
    go_region_held3 (fun w' => w'.cell? ⟨w.heap.size, 0, none⟩ = some (.string x.id) ∧ w'.cell? ⟨w.heap.size, 1, none⟩ = some (.int .i64 x.p) ∧ w'.cell? ⟨w.heap.size, 2, none⟩ = some (.int .i64 x.s) ∧ w'.cell? ⟨w.heap.size, 3, none⟩ = some (.int .i64 a)) (first | exact ⟨k0, k1, k2, k3⟩ | exact ⟨n0, n1, n2, n3⟩ | exact ⟨m0, m1, m2, m3⟩)
      (first
        | (go_at_call 62; refine (without_any g cap k l _ (HR.out.below HB0.out.drew hg) (Nat.lt_of_lt_of_le hg HB0.out.size) HI.out hl hc hm).mono ?_; rintro e w2 ⟨g1, cap1, rfl, hF1, hg1, hb1⟩; have nB : Below w.heap.size w w2 := bstep HB0.out.drew hb1; have n0 := (hb1.cell (p := ⟨w.heap.size, 0, none⟩) hs2).trans k0; have n1 := (hb1.cell (p := ⟨w.heap.size, 1, none⟩) hs2).trans k1; have n2 := (hb1.cell (p := ⟨w.heap.size, 2, none⟩) hs2).trans k2; have n3 := (hb1.cell (p := ⟨w.heap.size, 3, none⟩) hs2).trans k3; have hs3 := Nat.lt_of_lt_of_le hs2 hb1.size; have HRL := Lib.hid hF1.rl; clear hF1 hb1 hg1)
        | (go_at_call 38; refine (rins_any _ (remP k l) { x with v := a } _ HRL.out (by rw [HLR.out]; omega)).mono ?_; rintro e w3 ⟨g2, cap2, rfl, hF2, hg2, hb2⟩; have m0 := (hb2.cell (p := ⟨w.heap.size, 0, none⟩) hs3).trans n0; have m1 := (hb2.cell (p := ⟨w.heap.size, 1, none⟩) hs3).trans n1; have m2 := (hb2.cell (p := ⟨w.heap.size, 2, none⟩) hs3).trans n2; have m3 := (hb2.cell (p := ⟨w.heap.size, 3, none⟩) hs3).trans n3; have HM := Lib.hid (made_rl (v := .slice (some ⟨g, 0, none⟩) l.length cap) hF2 nB hg2); have HBF := Lib.hid (bstep nB hb2); clear hF2 hg2 hb2))
    go_wp2_with fail
    go_ret2
    rw [HA.out]
    exact ⟨_, rfl, HM.out.1, HM.out.2, HBF.out⟩
  · have ha := Lib.hid (show replP i a l = (l, 9) by unfold replP; rw [dif_neg hi])
    have HF := Lib.hid (rfind_no h hl hi)
    clear h hi
    go_enter Try.func50, Try.ntmps50
    go_wp2_with fail
    refine HF.out.mono ?_
    rintro e w' ⟨rfl, rfl⟩
    go_wp2_with fail
    go_ret2
    rw [ha.out]
    exact ⟨_, rfl, H.out, fun g hg => .inl hg, Below.refl _ _⟩

set_option maxRecDepth 100000 in
set_option maxHeartbeats 4000000 in
theorem rprom_any (v : Value) (l : List E) (i : ByteArray) (a : Int) (w : World) (h : RL w v l) (hgood : Good l) (hl : l.length ≤ 60000) :
    Calls Try.prog 51 #[v, .string i, .int .i64 a] w (RT v (promP i a l).1 (promP i a l).2 w) := by
  have H := Lib.hid h
  by_cases hi : ix i l < l.length
  · have HF := Lib.hid (rfind_yes h hl hi)
    obtain ⟨g, cap, rfl, hg, hc, hm, hr⟩ := reads_of_ix h hi
    obtain ⟨c0, c1, c2, c3⟩ := hr _ hi
    have HR := Lib.hid hr
    clear h hr
    by_cases hp1 : a < 0
    · have ha := Lib.hid (show promP i a l = (l, 2) by unfold promP; rw [dif_pos hi, if_pos (by omega)])
      generalize ix i l = k at *
      have b2 : ¬ (k : Int) < 0 := by omega
      clear c0 c1 c2 c3
      go_enter Try.func51, Try.ntmps51
      go_wp2_with fail
      refine HF.out.mono ?_
      rintro e w' ⟨rfl, rfl⟩
      go_wp2_with fail
      go_ret2
      rw [ha.out]
      exact ⟨_, rfl, H.out, fun g hg => .inl hg, Below.refl _ _⟩
    by_cases hp2 : 2 < a
    · have ha := Lib.hid (show promP i a l = (l, 2) by unfold promP; rw [dif_pos hi, if_pos (by omega)])
      generalize ix i l = k at *
      have b2 : ¬ (k : Int) < 0 := by omega
      clear c0 c1 c2 c3
      go_enter Try.func51, Try.ntmps51
      go_wp2_with fail
      refine HF.out.mono ?_
      rintro e w' ⟨rfl, rfl⟩
      go_wp2_with fail
      go_ret2
      rw [ha.out]
      exact ⟨_, rfl, H.out, fun g hg => .inl hg, Below.refl _ _⟩
    have HA := Lib.hid (show promP i a l = (insP { l[ix i l] with p := a } (remP (ix i l) l), 0) by unfold promP; rw [dif_pos hi, if_neg (by omega)])
    have hlr := length_remP hi
    generalize hX : l[ix i l] = x at *
    have HI := Lib.hid hi
    generalize ix i l = k at *
    have b0 : (0 : Int) ≤ (k : Int) := by omega
    have b1 : (k : Int) < (l.length : Int) := by omega
    have b2 : ¬ (k : Int) < 0 := by omega
    have HLR := Lib.hid hlr
    have hB0 : Below w.heap.size w (w.alloc (.cells #[.string x.id, .int .i64 a, .int .i64 x.s, .int .i64 x.v] 23)) := (Below.refl _ _).alloc (Nat.le_refl _) _
    have hK0 := At.new w 23 #[.string x.id, .int .i64 a, .int .i64 x.s, .int .i64 x.v]
    have HB0 := Lib.hid hB0
    clear hX hlr hB0
    go_enter Try.func51, Try.ntmps51
    go_wp2_with fail
    refine HF.out.mono ?_
    rintro e w' ⟨rfl, rfl⟩
    go_wp2_with fail
    generalize w.alloc (.cells #[.string x.id, .int .i64 a, .int .i64 x.s, .int .i64 x.v] 23) = w1 at *
    have k0 : w1.cell? ⟨w.heap.size, 0, none⟩ = some (.string x.id) := hK0.cell 0
    have k1 : w1.cell? ⟨w.heap.size, 1, none⟩ = some (.int .i64 a) := hK0.cell 1
    have k2 : w1.cell? ⟨w.heap.size, 2, none⟩ = some (.int .i64 x.s) := hK0.cell 2
    have k3 : w1.cell? ⟨w.heap.size, 3, none⟩ = some (.int .i64 x.v) := hK0.cell 3
    have hs2 := hK0.lt
    have HK := Lib.hid hK0
    clear hK0
    go_region_held3 (fun w' => w'.cell? ⟨w.heap.size, 0, none⟩ = some (.string x.id) ∧ w'.cell? ⟨w.heap.size, 1, none⟩ = some (.int .i64 a) ∧ w'.cell? ⟨w.heap.size, 2, none⟩ = some (.int .i64 x.s) ∧ w'.cell? ⟨w.heap.size, 3, none⟩ = some (.int .i64 x.v)) (first | exact ⟨k0, k1, k2, k3⟩ | exact ⟨n0, n1, n2, n3⟩ | exact ⟨m0, m1, m2, m3⟩)
      (first
        | (go_at_call 62; refine (without_any g cap k l _ (HR.out.below HB0.out.drew hg) (Nat.lt_of_lt_of_le hg HB0.out.size) HI.out hl hc hm).mono ?_; rintro e w2 ⟨g1, cap1, rfl, hF1, hg1, hb1⟩; have nB : Below w.heap.size w w2 := bstep HB0.out.drew hb1; have n0 := (hb1.cell (p := ⟨w.heap.size, 0, none⟩) hs2).trans k0; have n1 := (hb1.cell (p := ⟨w.heap.size, 1, none⟩) hs2).trans k1; have n2 := (hb1.cell (p := ⟨w.heap.size, 2, none⟩) hs2).trans k2; have n3 := (hb1.cell (p := ⟨w.heap.size, 3, none⟩) hs2).trans k3; have hs3 := Nat.lt_of_lt_of_le hs2 hb1.size; have HRL := Lib.hid hF1.rl; clear hF1 hb1 hg1)
        | (go_at_call 38; refine (rins_any _ (remP k l) { x with p := a } _ HRL.out (by rw [HLR.out]; omega)).mono ?_; rintro e w3 ⟨g2, cap2, rfl, hF2, hg2, hb2⟩; have m0 := (hb2.cell (p := ⟨w.heap.size, 0, none⟩) hs3).trans n0; have m1 := (hb2.cell (p := ⟨w.heap.size, 1, none⟩) hs3).trans n1; have m2 := (hb2.cell (p := ⟨w.heap.size, 2, none⟩) hs3).trans n2; have m3 := (hb2.cell (p := ⟨w.heap.size, 3, none⟩) hs3).trans n3; have HM := Lib.hid (made_rl (v := .slice (some ⟨g, 0, none⟩) l.length cap) hF2 nB hg2); have HBF := Lib.hid (bstep nB hb2); clear hF2 hg2 hb2))
    go_wp2_with fail
    go_ret2
    rw [HA.out]
    exact ⟨_, rfl, HM.out.1, HM.out.2, HBF.out⟩
  · have ha := Lib.hid (show promP i a l = (l, 9) by unfold promP; rw [dif_neg hi])
    have HF := Lib.hid (rfind_no h hl hi)
    clear h hi
    go_enter Try.func51, Try.ntmps51
    go_wp2_with fail
    refine HF.out.mono ?_
    rintro e w' ⟨rfl, rfl⟩
    go_wp2_with fail
    go_ret2
    rw [ha.out]
    exact ⟨_, rfl, H.out, fun g hg => .inl hg, Below.refl _ _⟩
end Go.Proofs.Ytmimfhjmhlmibaa
