/- The walk of the law QueueChanging. -/
import Derived.Test.YtmimfhjmhlmibaaChange
import Derived.Test.YtmimfhjmhlmibaaRound
import Derived.Sort.CutIn
namespace Go.Proofs.Ytmimfhjmhlmibaa
open Go.RowKit Go.MapKept Go.ChangeMaps Go.Shelf
set_option linter.unusedVariables false
attribute [local go_sem ↓] Go.wp_at_zero Go.wp_at_succ
attribute [local go_sem] Oper.semAt_some

theorem tmod3 (n : Nat) : ∃ k : Nat, (n : Int).tmod 3 = (k : Int) ∧ k ≤ 2 := by
  have h1 := Int.tmod_nonneg 3 (show (0 : Int) ≤ (n : Int) by omega)
  have h2 := Int.tmod_lt_of_pos (n : Int) (show (0 : Int) < 3 by omega)
  exact ⟨((n : Int).tmod 3).toNat, by omega, by omega⟩

set_option maxRecDepth 100000 in
set_option maxHeartbeats 16000000 in
theorem queueChanging_walk (S : Value) (os : List (Int × E)) (w : World) (h : OL w S os) :
    Calls Try.prog 6 #[S] w fun e w' => e = .returned (.bool true) ∧ Below w.heap.size w w' := by
  have H := Lib.hid h
  obtain ⟨SA, sn, sc, rfl⟩ : ∃ A n c, S = .slice A n c := by
    rcases h with ⟨A, cap, rfl, _⟩ | ⟨b, off, cap, rfl, _⟩
    · exact ⟨_, _, _, rfl⟩
    · exact ⟨_, _, _, rfl⟩
  clear h
  have hB0 : Below w.heap.size w (w.alloc (.cells #[.bool false] 4)) := (Below.refl _ _).alloc (Nat.le_refl _) _
  have a4 := At.new w 4 #[.bool false]
  refine (callsIn_wide (n := 5)).1 (callsIn_of_wp_marks Try.func6 rfl trivial ?_ rfl)
  simp only [Try.ntmps6, List.size_toArray, List.length_cons, List.length_nil, Nat.reduceAdd, Nat.reduceSub, Array.replicate_succ, Array.replicate_zero, List.push_toArray, List.append_toArray, List.nil_append, List.cons_append]
  refine wpIn_wide.2 ?_
  go_wp2_with fail
  refine (known_any _).mono ?_
  rintro e w0 ⟨rfl, hb0⟩
  have hB1 := bstep hB0 hb0
  have b4 := a4.below hb0 a4.lt
  clear a4 hB0 hb0
  go_wp2_with fail
  refine (build_any _ os w0 (H.out.below hB1)).mono ?_
  rintro e w1 ⟨q, v, rfl, hbo⟩
  obtain ⟨g, m1, m2, ⟨hq, hrl, hoff⟩, hz, hv, hb1, hs1⟩ := hbo
  have hB2 := bstep hB1 hb1
  have c4 := b4.below hb1 b4.lt
  have hlf := length_foldP os [] 60
  simp only [List.length_nil] at hlf
  generalize foldP 60 os [] = L at *
  have hw0 := b4.lt
  obtain ⟨Av, gv, cv, rfl, hgv, hAv, -, -⟩ := hrl.form2 hq.qlt
  have hbl : Below w1.heap.size w1 ((w1.alloc (.cells #[.pointer (some ⟨q, 0, none⟩)] 44)).alloc (.cells #[.slice Av L.length cv] 33)) := ((Below.refl _ _).alloc (Nat.le_refl _) _).alloc (by simp) _
  have hbsz : ((w1.alloc (.cells #[.pointer (some ⟨q, 0, none⟩)] 44)).alloc (.cells #[.slice Av L.length cv] 33)).heap.size = w1.heap.size + 1 + 1 := by simp
  have hwlt := hB2.size
  have zlt := hq.zlt
  have z4 : ¬ ZQ q g m1 m2 w.heap.size := fun z => by have := hz _ z; omega
  have z2 : ¬ ZQ q g m1 m2 w1.heap.size := fun z => by have := zlt _ z; omega
  have z3 : ¬ ZQ q g m1 m2 (w1.heap.size + 1) := fun z => by have := zlt _ z; omega
  have HQ := Lib.hid (hq.below hbl)
  have HRL := Lib.hid (hrl.below hbl)
  have HOFF := Lib.hid hoff
  have HC4 := Lib.hid (c4.below hbl c4.lt)
  have HCQ := Lib.hid ((At.new w1 44 #[.pointer (some ⟨q, 0, none⟩)]).alloc (.cells #[.slice Av L.length cv] 33))
  have hcl := At.new (w1.alloc (.cells #[.pointer (some ⟨q, 0, none⟩)] 44)) 33 #[.slice Av L.length cv]
  rw [World.size_alloc] at hcl
  have HCL := Lib.hid hcl
  have HB2 := Lib.hid (bstep hB2 hbl)
  have HZ := Lib.hid hz
  have l4 := c4.lt
  have lq := hq.qlt
  have lg := hq.row
  have lm1 := hq.keys.lt
  have lm2 := hq.used.lt
  clear b4 hB1 hb1 c4 hB2 hq hrl hoff hbl hcl zlt hz hv
  go_wp2_with (go_at_call 22; refine (all_any _ _).mono ?_; rintro e w' ⟨rfl, rfl⟩)
  generalize ((w1.alloc (.cells #[.pointer (some ⟨q, 0, none⟩)] 44)).alloc (.cells #[.slice Av L.length cv] 33)) = wb at *
  have hB3 : Below wb.heap.size wb (((wb.alloc (.cells #[.int .i64 0] 3)).alloc (.cells #[.pointer (some ⟨q, 0, none⟩)] 44)).alloc (.cells #[.func (.func 45) #[] #[]] 50)) := (((Below.refl wb.heap.size _).alloc (Nat.le_refl _) _).alloc (by simp) _).alloc (by simp; omega) _
  have b5 := ((At.new wb 3 #[.int .i64 0]).alloc (.cells #[.pointer (some ⟨q, 0, none⟩)] 44)).alloc (.cells #[.func (.func 45) #[] #[]] 50)
  have bq := (At.new (wb.alloc (.cells #[.int .i64 0] 3)) 44 #[.pointer (some ⟨q, 0, none⟩)]).alloc (.cells #[.func (.func 45) #[] #[]] 50)
  have bo := At.new ((wb.alloc (.cells #[.int .i64 0] 3)).alloc (.cells #[.pointer (some ⟨q, 0, none⟩)] 44)) 50 #[.func (.func 45) #[] #[]]
  have hsl : (((wb.alloc (.cells #[.int .i64 0] 3)).alloc (.cells #[.pointer (some ⟨q, 0, none⟩)] 44)).alloc (.cells #[.func (.func 45) #[] #[]] 50)).heap.size = w1.heap.size + 1 + 1 + 1 + 1 + 1 := by simp [hbsz]
  simp only [World.size_alloc, hbsz] at b5 bq bo
  generalize (((wb.alloc (.cells #[.int .i64 0] 3)).alloc (.cells #[.pointer (some ⟨q, 0, none⟩)] 44)).alloc (.cells #[.func (.func 45) #[] #[]] 50)) = wl at *
  have hQl := HQ.out.below (w' := wl) hB3
  obtain ⟨A, cap, hA, hr, hc⟩ := hQl.body
  obtain ⟨g2, hq2, hg2⟩ := qu_norm hQl
  have hrow : ∀ r n c : Nat, wl.cell? ⟨q, 0, none⟩ = some (.slice (some ⟨r, 0, none⟩) n c) → r = g := fun r n c z => (qu_cell hQl z).1
  have hc0 : ChC q g m1 m2 wb L wl := ⟨g2, hq2, by rcases hg2 with h | h; exact .inl h; exact .inr (.inl h), .of hB3⟩
  have HQ2 := Lib.hid hQl
  refine (wpIn_wide (n := 5)).1 ?_
  refine wpIn_rangeFunc_ownH (w := wl) rfl (by omega) (gf := 43) (lb := #[.pointer (some ⟨w1.heap.size + 1 + 1 + 1, 0, none⟩), .pointer (some ⟨w1.heap.size + 1 + 1 + 1 + 1, 0, none⟩)]) rfl trivial (enters_of Try.func43 (by kernel_rfl) rfl)
    (all_stops 4 (by omega) (ChZ q m1 m2 (w1.heap.size + 1 + 1)) (q + 1) q g (w1.heap.size + 1 + 1 + 1) (w1.heap.size + 1 + 1 + 1 + 1) cap A L (.map (some m1)) (.map (some m2)) wl (chz_still _ _ _ _) (by omega) (bq.cell 0) (bo.cell 0) hA hr hQl.row (by omega)
      (fun r z => by
        rcases z with (z | z | z | ⟨n, c, z⟩) | z
        · omega
        · omega
        · omega
        · have := hrow _ _ _ z; omega
        · omega)
      (fun z => by
        rcases z with (z | z | z | ⟨n, c, z⟩) | z
        · omega
        · omega
        · omega
        · have := hrow _ _ _ z; omega
        · omega))
    (fun h k => h.trans k) (fun W l o o' hl h hc hk => kpzd_b W l o o' hl h hc hk (by omega)) (Below.refl _ _) (fun _ => rfl) (ChI q g m1 m2 (w1.heap.size + 1 + 1) wb L) (fun c pre W => ¬ pre <+: pairs L) (chI_own (by omega) (by omega) (by omega) (by omega)) (fun c => ownFrom_pure _ _)
    ⟨L, ⟨by omega, hc0⟩, b5⟩
    (fun y a' W => a' = { tmps := #[.slice SA sn sc, undef, .pointer (some ⟨w.heap.size, 0, none⟩), .pointer (some ⟨w1.heap.size, 0, none⟩), .pointer (some ⟨w1.heap.size + 1, 0, none⟩), .pointer (some ⟨w1.heap.size + 1 + 1, 0, none⟩), .string y.1, .int .i64 y.2, .bool true, .bool false, .tuple #[.pointer (some ⟨q, 0, none⟩), .slice Av L.length cv], .slice SA sn sc, .tuple #[.pointer (some ⟨q, 0, none⟩), .slice Av L.length cv], .pointer (some ⟨q, 0, none⟩), .slice Av L.length cv, .pointer (some ⟨q, 0, none⟩), .bool false, .pointer (some ⟨q, 0, none⟩), .func (.func 43) #[] #[.pointer (some ⟨w1.heap.size + 1 + 1 + 1, 0, none⟩), .pointer (some ⟨w1.heap.size + 1 + 1 + 1 + 1, 0, none⟩)], .string y.1, .int .i64 y.2, undef, undef, undef, undef, undef, undef, undef, undef, undef, undef, undef, undef, undef, undef, undef, undef, undef, undef, undef, undef, undef, undef, undef, undef, undef, undef, undef, undef, undef, undef, undef, undef, undef, undef, undef, undef, undef, undef, undef, undef, undef, undef, undef, undef, undef, undef, undef, undef, undef, undef, undef, undef, undef, undef, undef, undef, undef], defers := [] }) (fun _ _ _ _ _ _ hs _ _ => hs) ?assign ?body ?done ?stop
  case assign =>
    intro lb pre x W K hi hK
    gi_wp2
    exact hK _ _ (KeepsFrom.refl _ _) (KpZ.refl _ _) hi rfl
  case body =>
    rintro lb pre y a' W hlb hrec ⟨M, ⟨hml, hcw⟩, i5⟩ rfl hlen
    have hmx : Try.prog.follows .mixedOrders = true := by kernel_rfl
    have HC0 := Lib.hid hcw
    have HI0 := Lib.hid i5
    obtain rfl := hAv (by omega)
    obtain ⟨g1, -, hg1, hkp⟩ := HC0.out
    have i2 := HC4.out.keep hkp z4
    have i3 := HCQ.out.keep hkp z2
    have i4 := HCL.out.keep hkp z3
    have c2 : W.cell? ⟨w.heap.size, 0, none⟩ = some (.bool false) := i2.cell 0
    have g2' := i2.frozen 0
    have c3 : W.cell? ⟨w1.heap.size, 0, none⟩ = some (.pointer (some ⟨q, 0, none⟩)) := i3.cell 0
    have c4 : W.cell? ⟨w1.heap.size + 1, 0, none⟩ = some (.slice (some ⟨gv, 0, none⟩) L.length cv) := i4.cell 0
    have c5 : W.cell? ⟨w1.heap.size + 1 + 1, 0, none⟩ = some (.int .i64 (pre.length : Nat)) := i5.cell 0
    have g5 := i5.frozen 0
    obtain ⟨Av', gv', cv', heq, hgv', hAv', hrv, -⟩ := (HRL.out.keep hkp HOFF.out).form2 (b := w.heap.size) i2.lt
    obtain rfl : gv = gv' := by
      have h1 := hAv' (by omega)
      subst h1
      simp at heq
      exact heq.1
    obtain ⟨r0, -, -, r3⟩ := hrv pre.length hlen
    have d0 : (0 : Int) ≤ (pre.length : Int) := by omega
    have d1 : (pre.length : Int) < (L.length : Int) := by omega
    clear i2 i3 i4 hg1 hkp hrv heq hAv' hcw i5 hrec hA hr hQl b5 bq bo hq2 hc0 hrow hg2 hgv' hc
    by_cases hy : L[pre.length].id = y.1
    · have hyb : (L[pre.length].id.toList == y.1.toList) = true := by rw [hy]; simp
      have HY := Lib.hid hy
      clear hy
      by_cases hy2 : L[pre.length].v = y.2
      · have hvb : (L[pre.length].v == y.2) = true := beq_iff_eq.2 hy2
        have hvb2 : decide (L[pre.length].v = y.2) = true := decide_eq_true hy2
        have hvb3 : (L[pre.length].v != y.2) = false := by rw [bne, hvb]; rfl
        clear hy2
        gi_upto_region 13 with fail
        obtain ⟨n, hn⟩ : ∃ n, n = pre.length + 1 := ⟨_, rfl⟩
        obtain ⟨hcs, j5, kz⟩ := HC0.out.set (v := .int .i64 ((pre.length : Int) + 1)) HI0.out (by omega)
        rw [show (pre.length : Int) + 1 = (n : Int) by omega] at hcs j5 kz
        have kf := kf_set wl.heap.size W ⟨w1.heap.size + 1 + 1, 0, none⟩ (.int .i64 (n : Int))
        have KZ1 := Lib.hid kz
        have KF1 := Lib.hid kf
        rw [show (pre.length : Int) + 1 = (n : Int) by omega]
        have hnl : n ≤ L.length := by omega
        have HN := Lib.hid hn
        clear kz kf c2 g2' c3 c4 c5 g5 r0 r3 d0 d1 hyb hvb hvb2 hvb3 hn
        generalize W.setCell ⟨w1.heap.size + 1 + 1, 0, none⟩ (.int .i64 (n : Int)) = W2 at *
        have HC1 := Lib.hid hcs
        have HI1 := Lib.hid j5
        obtain ⟨g1, -, hg1, hkp⟩ := HC1.out
        have i2 := HC4.out.keep hkp z4
        have i3 := HCQ.out.keep hkp z2
        have i4 := HCL.out.keep hkp z3
        have c2 : W2.cell? ⟨w.heap.size, 0, none⟩ = some (.bool false) := i2.cell 0
        have g2' := i2.frozen 0
        have c3 : W2.cell? ⟨w1.heap.size, 0, none⟩ = some (.pointer (some ⟨q, 0, none⟩)) := i3.cell 0
        have c4 : W2.cell? ⟨w1.heap.size + 1, 0, none⟩ = some (.slice (some ⟨gv, 0, none⟩) L.length cv) := i4.cell 0
        have c5 : W2.cell? ⟨w1.heap.size + 1 + 1, 0, none⟩ = some (.int .i64 (n : Nat)) := j5.cell 0
        have g5 := j5.frozen 0
        obtain ⟨Av', gv', cv', heq, hgv', hAv', hrv, -⟩ := (HRL.out.keep hkp HOFF.out).form2 (b := w.heap.size) i2.lt
        obtain rfl : gv = gv' := by
          have h1 := hAv' (by omega)
          subst h1
          simp at heq
          exact heq.1
        have HRW := Lib.hid hrv
        clear i2 i3 i4 hg1 hkp hrv heq hAv' hgv' hcs j5
        have d0 : (0 : Int) ≤ (n : Int) := by omega
        have hml2 : M.length ≤ 60000 := by omega
        gi_upto_if 48 with fail
        gi_cut [] from 21 (fun wx => ∃ M2 : List E, M2.length ≤ M.length + 1 ∧ ChC q g m1 m2 wb M2 wx ∧ At wx (w1.heap.size + 1 + 1) 3 #[.int .i64 (n : Nat)] ∧ KpZ (ChZ q m1 m2 (w1.heap.size + 1 + 1)) W wx ∧ KeepsFrom wl.heap.size W wx)
        case first =>
          by_cases hn2 : n < L.length
          · have d1 : (n : Int) < (L.length : Int) := by omega
            obtain ⟨r0, -, -, -⟩ := HRW.out n hn2
            have hdr : Below W2.heap.size W2 W2.drew := (Below.refl _ _).drew
            have hrem := (HC1.out.below hdr).remv (HI1.out.below hdr HI1.out.lt) (C := wl.heap.size) (by omega) (by omega) (by omega) L[n].id hml2
            have HREM := Lib.hid hrem
            have HZD := Lib.hid (KZ1.out.trans (kpzd_below HC1.out.qlt hdr))
            have HFD := Lib.hid (KF1.out.trans (kf_below hdr))
            clear hrem
            clear hdr
            gi_upto_region 14 with fail
            gi_region_with_o (refine ⟨trivial, (CallsIn.inRound lb (callsIn_wide.2 HREM.out)).mono ?_⟩; rintro e W3 ⟨rfl, hcr, k5, kz, kf⟩)
            all_goals (gi_wp2_with fail)
            all_goals gi_meet
            all_goals exact ⟨_, length_remvP _ _, hcr, k5, HZD.out.trans kz, HFD.out.trans kf⟩
          · have d1 : ¬ (n : Int) < (L.length : Int) := by omega
            gi_wp2_with fail
            gi_meet
            exact ⟨M, Nat.le_succ _, HC1.out, HI1.out, KZ1.out, KF1.out⟩
        case rest =>
          obtain ⟨M2, hm2, hc2, j6, kz2, kf2⟩ := hcut
          have HCa := Lib.hid hc2
          have HIa := Lib.hid j6
          have KZa := Lib.hid kz2
          have KFa := Lib.hid kf2
          obtain ⟨k, hk, hk2⟩ := tmod3 n
          clear hc2 j6 kz2 kf2 c2 g2' c3 c4 c5 g5 HC1 HI1 KZ1 KF1 HRW HC0 HI0
          obtain ⟨g1, -, hg1, hkp⟩ := HCa.out
          have i2 := HC4.out.keep hkp z4
          have i3 := HCQ.out.keep hkp z2
          have i4 := HCL.out.keep hkp z3
          have c2 : wc.cell? ⟨w.heap.size, 0, none⟩ = some (.bool false) := i2.cell 0
          have g2' := i2.frozen 0
          have c3 : wc.cell? ⟨w1.heap.size, 0, none⟩ = some (.pointer (some ⟨q, 0, none⟩)) := i3.cell 0
          have c4 : wc.cell? ⟨w1.heap.size + 1, 0, none⟩ = some (.slice (some ⟨gv, 0, none⟩) L.length cv) := i4.cell 0
          have c5 : wc.cell? ⟨w1.heap.size + 1 + 1, 0, none⟩ = some (.int .i64 (n : Nat)) := HIa.out.cell 0
          have g5 := HIa.out.frozen 0
          clear i2 i3 i4 hg1 hkp
          gi_wp2_with fail
          refine ⟨trivial, (CallsIn.inRound lb (callsIn_wide.2 (HCa.out.prom HIa.out (C := wl.heap.size) (by omega) (by omega) (by omega) y.1 (2 - (k : Int)) (by omega)))).mono ?_⟩
          rintro e W4 ⟨rfl, hcn, jn, kz, kf⟩
          have HCb := Lib.hid hcn
          have HIb := Lib.hid jn
          have KZb := Lib.hid (KZa.out.trans kz)
          have KFb := Lib.hid (KFa.out.trans kf)
          have hlb := length_promP y.1 (2 - (k : Int)) M2
          clear hcn jn kz kf c2 g2' c3 c4 c5 g5
          obtain ⟨g1, -, hg1, hkp⟩ := HCb.out
          have i2 := HC4.out.keep hkp z4
          have i3 := HCQ.out.keep hkp z2
          have i4 := HCL.out.keep hkp z3
          have c2 : W4.cell? ⟨w.heap.size, 0, none⟩ = some (.bool false) := i2.cell 0
          have g2' := i2.frozen 0
          have c3 : W4.cell? ⟨w1.heap.size, 0, none⟩ = some (.pointer (some ⟨q, 0, none⟩)) := i3.cell 0
          have c4 : W4.cell? ⟨w1.heap.size + 1, 0, none⟩ = some (.slice (some ⟨gv, 0, none⟩) L.length cv) := i4.cell 0
          have c5 : W4.cell? ⟨w1.heap.size + 1 + 1, 0, none⟩ = some (.int .i64 (n : Nat)) := HIb.out.cell 0
          have g5 := HIb.out.frozen 0
          clear i2 i3 i4 hg1 hkp
          gi_wp2_with fail
          refine ⟨trivial, (CallsIn.inRound lb (callsIn_wide.2 (HCb.out.remv HIb.out (C := wl.heap.size) (by omega) (by omega) (by omega) ⟨#[97, 100, 100, 101, 100]⟩ (by omega)))).mono ?_⟩
          rintro e W5 ⟨rfl, hcn, jn, kz, kf⟩
          have HCc := Lib.hid hcn
          have HIc := Lib.hid jn
          have KZc := Lib.hid (KZb.out.trans kz)
          have KFc := Lib.hid (KFb.out.trans kf)
          have hlc := length_remvP ⟨#[97, 100, 100, 101, 100]⟩ (promP y.1 (2 - (k : Int)) M2).1
          clear hcn jn kz kf c2 g2' c3 c4 c5 g5
          obtain ⟨g1, -, hg1, hkp⟩ := HCc.out
          have i2 := HC4.out.keep hkp z4
          have i3 := HCQ.out.keep hkp z2
          have i4 := HCL.out.keep hkp z3
          have c2 : W5.cell? ⟨w.heap.size, 0, none⟩ = some (.bool false) := i2.cell 0
          have g2' := i2.frozen 0
          have c3 : W5.cell? ⟨w1.heap.size, 0, none⟩ = some (.pointer (some ⟨q, 0, none⟩)) := i3.cell 0
          have c4 : W5.cell? ⟨w1.heap.size + 1, 0, none⟩ = some (.slice (some ⟨gv, 0, none⟩) L.length cv) := i4.cell 0
          have c5 : W5.cell? ⟨w1.heap.size + 1 + 1, 0, none⟩ = some (.int .i64 (n : Nat)) := HIc.out.cell 0
          have g5 := HIc.out.frozen 0
          clear i2 i3 i4 hg1 hkp
          gi_wp2_with fail
          refine ⟨trivial, (CallsIn.inRound lb (callsIn_wide.2 (HCc.out.add HIc.out (C := wl.heap.size) (by omega) (by omega) (by omega) ⟨⟨#[97, 100, 100, 101, 100]⟩, (k : Int), 1099511627776, 5⟩ (by omega)))).mono ?_⟩
          rintro e W6 ⟨rfl, hcn, jn, kz, kf⟩
          have HCd := Lib.hid hcn
          have HId := Lib.hid jn
          have KZd := Lib.hid (KZc.out.trans kz)
          have KFd := Lib.hid (KFc.out.trans kf)
          have hld := length_addP ⟨⟨#[97, 100, 100, 101, 100]⟩, (k : Int), 1099511627776, 5⟩ (remvP ⟨#[97, 100, 100, 101, 100]⟩ (promP y.1 (2 - (k : Int)) M2).1).1
          clear hcn jn kz kf c2 g2' c3 c4 c5 g5
          obtain ⟨g1, -, hg1, hkp⟩ := HCd.out
          have i2 := HC4.out.keep hkp z4
          have i3 := HCQ.out.keep hkp z2
          have i4 := HCL.out.keep hkp z3
          have c2 : W6.cell? ⟨w.heap.size, 0, none⟩ = some (.bool false) := i2.cell 0
          have g2' := i2.frozen 0
          have c3 : W6.cell? ⟨w1.heap.size, 0, none⟩ = some (.pointer (some ⟨q, 0, none⟩)) := i3.cell 0
          have c4 : W6.cell? ⟨w1.heap.size + 1, 0, none⟩ = some (.slice (some ⟨gv, 0, none⟩) L.length cv) := i4.cell 0
          have c5 : W6.cell? ⟨w1.heap.size + 1 + 1, 0, none⟩ = some (.int .i64 (n : Nat)) := HId.out.cell 0
          have g5 := HId.out.frozen 0
          clear i2 i3 i4 hg1 hkp
          have d2 : decide ((200 : Int) < (n : Int)) = false := decide_eq_false (by omega)
          have hn := HN.out
          have HN2 := Lib.hid hn
          clear hn
          gi_wp2_with fail
          have hn := HN2.out
          refine ⟨KFd.out, KZd.out, _, ⟨?_, HCd.out⟩, ?_⟩
          · rw [List.length_append, show [y].length = 1 from rfl]; omega
          · rw [List.length_append, show pre.length + [y].length = n from hn.symm]; exact HId.out
      · have hvb : (L[pre.length].v == y.2) = false := beq_eq_false_iff_ne.2 hy2
        have hvb2 : decide (L[pre.length].v = y.2) = false := decide_eq_false hy2
        have hvb3 : (L[pre.length].v != y.2) = true := by rw [bne, hvb]; rfl
        have HY2 := Lib.hid hy2
        clear hy2
        gi_wp2_with fail
        exact ⟨kf_set _ _ _ _, fun hp => by
          obtain ⟨_, _, h2⟩ := pre_get hp
          exact HY2.out h2.symm⟩
    · have hyb := toList_ne hy
      have HY := Lib.hid hy
      clear hy
      gi_wp2_with fail
      exact ⟨kf_set _ _ _ _, fun hp => by
        obtain ⟨_, h1, _⟩ := pre_get hp
        exact HY.out h1.symm⟩
  case done =>
    rintro D ys W hD rfl ⟨M, ⟨-, hcw⟩, i5⟩ hK
    rw [pairs_length] at i5
    obtain ⟨g1, -, hg1, hkp⟩ := hcw
    have i2 := HC4.out.keep hkp z4
    have i3 := HCQ.out.keep hkp z2
    have i4 := HCL.out.keep hkp z3
    have c2 : W.cell? ⟨w.heap.size, 0, none⟩ = some (.bool false) := i2.cell 0
    have g2' := i2.frozen 0
    have c3 : W.cell? ⟨w1.heap.size, 0, none⟩ = some (.pointer (some ⟨q, 0, none⟩)) := i3.cell 0
    have c4 : W.cell? ⟨w1.heap.size + 1, 0, none⟩ = some (.slice Av L.length cv) := i4.cell 0
    have c5 : W.cell? ⟨w1.heap.size + 1 + 1, 0, none⟩ = some (.int .i64 (L.length : Nat)) := i5.cell 0
    have g5 := i5.frozen 0
    have HI2 := Lib.hid i2
    have HBW := Lib.hid (HB2.out.trans (hkp.below (B := w.heap.size) (by omega) (fun r hr z => by have := HZ.out r z; omega)))
    have HK := Lib.hid hK
    clear i2 i3 i4 i5 hg1 hkp hK hA hr hQl b5 bq bo hq2 hc0 hrow hg2 hc
    go_wp2_with fail
    refine (known_any _).mono ?_
    rintro e W9 ⟨rfl, hb9⟩
    have hA9 := HI2.out.below hb9 HI2.out.lt
    have f2 : W9.cell? ⟨w.heap.size, 0, none⟩ = some (.bool false) := hA9.cell 0
    have ff2 := hA9.frozen 0
    have HA9 := Lib.hid hA9
    have HK9 := Lib.hid ((hb9.block _ (Array.getElem?_eq_some_iff.1 HK.out).1).trans HK.out)
    have HB9 := Lib.hid (bstep HBW.out hb9)
    clear hA9 hb9 c2 g2' c3 c4 c5 g5
    go_wp2_with fail
    obtain ⟨g1, rf, hbf⟩ := leave1 HA9.out HK9.out HB9.out (Nat.le_refl _) (by omega)
    refine ⟨by simp, .inl ⟨_, _, rfl, run_takeDeferred g1, ?_⟩⟩
    exact ⟨.bool true, by simp [results, Try.results6, go_sem, rf], rfl, hbf⟩
  case stop =>
    rintro D c pre W hD hpre hx
    exact absurd hpre hx
end Go.Proofs.Ytmimfhjmhlmibaa
