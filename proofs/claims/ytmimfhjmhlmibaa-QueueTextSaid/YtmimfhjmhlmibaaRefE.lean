/- The walk of the reference's insert. -/
import Derived.Test.YtmimfhjmhlmibaaRefD
namespace Go.Proofs.Ytmimfhjmhlmibaa
open Go.RowKit Go.MapKept Go.ChangeMaps
set_option linter.unusedVariables false
attribute [local go_sem ↓] Go.wp_at_zero Go.wp_at_succ

theorem fr_empty_drew (w : World) : Fr (w.alloc (.cells #[] 23)).drew w.heap.size 0 [] := (Fr.empty w).keep (Keep.drew (fun _ => False) _) id
theorem fr_a (w : World) (o : Obj) : Fr ((w.alloc (.cells #[] 23)).alloc o).drew w.heap.size 0 [] := ((Fr.empty w).keep (Keep.alloc (fun _ => False) _ o) id).keep (Keep.drew (fun _ => False) _) id
theorem fr_b (w : World) (o : Obj) : Fr ((w.alloc o).alloc (.cells #[] 23)).drew (w.heap.size + 1) 0 [] := by
  have := fr_empty_drew (w.alloc o)
  rwa [World.size_alloc] at this
theorem at_a (w : World) (o : Obj) (cs : Array Value) (t : TypeId) : At ((w.alloc o).alloc (.cells cs t)).drew (w.heap.size + 1) t cs := by
  have := (At.new (w.alloc o) t cs).drew
  rwa [World.size_alloc] at this
theorem at_b (w : World) (o : Obj) (cs : Array Value) (t : TypeId) : At ((w.alloc (.cells cs t)).alloc o).drew w.heap.size t cs := ((At.new w t cs).alloc o).drew
theorem below2 (w : World) (o1 o2 : Obj) : Below w.heap.size w ((w.alloc o1).alloc o2).drew := (((Below.refl _ _).alloc (Nat.le_refl _) _).alloc (by simp) _).drew
theorem below1 (w : World) (o1 : Obj) : Below w.heap.size w (w.alloc o1).drew := ((Below.refl _ _).alloc (Nat.le_refl _) _).drew
theorem made_of {w wr w3 : World} {l : List E} {x : E} {g c at' n : Nat} (hB : Below w.heap.size w wr) (hn : n = l.length) (hat : at' = lb x.p x.s l) (hF : Fr w3 g c (rows (l.take at' ++ x :: l.drop at'))) (hg : wr.heap.size ≤ g) (hb : Below wr.heap.size wr w3) :
    Made (insP x l) w (.returned (.slice (some ⟨g, 0, none⟩) (at' + 1 + (n - at')) c)) w3 := by
  have hl := lb_le x.p x.s l
  subst hat
  refine ⟨g, c, by rw [length_insP, hn, show lb x.p x.s l + 1 + (l.length - lb x.p x.s l) = l.length + 1 by omega], hF, Nat.le_trans hB.size hg, bstep hB hb⟩

set_option maxRecDepth 100000 in
set_option maxHeartbeats 8000000 in
theorem rins_some (g cap : Nat) (l : List E) (x : E) (w : World) (hr : Reads w g l) (hg : g < w.heap.size) (hl : l.length ≤ 60000) (hc : l.length ≤ cap) (hm : cap ≤ 9223372036854775807) :
    Calls Try.prog 38 #[.slice (some ⟨g, 0, none⟩) l.length cap, .agg #[.string x.id, .int .i64 x.p, .int .i64 x.s, .int .i64 x.v]] w (Made (insP x l) w) := by
  have hB0 : Below w.heap.size w (w.alloc (.cells #[.string x.id, .int .i64 x.p, .int .i64 x.s, .int .i64 x.v] 23)) := (Below.refl _ _).alloc (Nat.le_refl _) _
  have hK0 := At.new w 23 #[.string x.id, .int .i64 x.p, .int .i64 x.s, .int .i64 x.v]
  have HR := Lib.hid hr
  have hlbl := lb_le x.p x.s l
  clear hr
  go_enter Try.func38, Try.ntmps38
  go_wp2_with fail
  go_loopw [5] (fun t5 wr => ∃ k : Nat, k ≤ lb x.p x.s l ∧ t5 = .int .i64 (k : Int) ∧ Below w.heap.size w wr ∧ At wr w.heap.size 23 #[.string x.id, .int .i64 x.p, .int .i64 x.s, .int .i64 x.v]) (fun t5 _ => l.length - (intOf t5).toNat)
  case atStart => exact ⟨0, Nat.zero_le _, rfl, hB0, hK0⟩
  case round =>
    obtain ⟨k, hk, rfl, hB, hK⟩ := hrel
    clear hB0 hK0
    have k0 : wr.cell? ⟨w.heap.size, 0, none⟩ = some (.string x.id) := hK.cell 0
    have k1 : wr.cell? ⟨w.heap.size, 1, none⟩ = some (.int .i64 x.p) := hK.cell 1
    have k2 : wr.cell? ⟨w.heap.size, 2, none⟩ = some (.int .i64 x.s) := hK.cell 2
    have k3 : wr.cell? ⟨w.heap.size, 3, none⟩ = some (.int .i64 x.v) := hK.cell 3
    have hs2 := hK.lt
    have hg2 : g < wr.heap.size := by omega
    have HK := Lib.hid hK
    clear hK
    by_cases hlt : k < l.length
    · obtain ⟨c0, c1, c2, c3⟩ := (HR.out.below hB hg) k hlt
      have b0 : (0 : Int) ≤ (k : Int) := by omega
      have b1 : (k : Int) < (l.length : Int) := by omega
      have hd : decide ((k : Int) < (l.length : Int)) = true := by simpa using hlt
      have hq := fun W => before_any (l[k]).id x.id (l[k]).p (l[k]).s (l[k]).v x.p x.s x.v W
      have HRk := Lib.hid (HR.out.below hB hg)
      by_cases hkk : k < lb x.p x.s l
      · rw [show kbef (l[k]).p (l[k]).s x.p x.s = true from lb_before k hkk] at hq
        have HQ := Lib.hid hq
        clear hq
        go_wp2_with fail
        go_region_held3 (fun w' => w'.cell? ⟨g, k * 4, none⟩ = some (.string (l[k]).id) ∧ w'.cell? ⟨g, k * 4 + 1, none⟩ = some (.int .i64 (l[k]).p) ∧ w'.cell? ⟨g, k * 4 + 2, none⟩ = some (.int .i64 (l[k]).s) ∧ w'.cell? ⟨g, k * 4 + 3, none⟩ = some (.int .i64 (l[k]).v) ∧
            w'.cell? ⟨w.heap.size, 0, none⟩ = some (.string x.id) ∧ w'.cell? ⟨w.heap.size, 1, none⟩ = some (.int .i64 x.p) ∧ w'.cell? ⟨w.heap.size, 2, none⟩ = some (.int .i64 x.s) ∧ w'.cell? ⟨w.heap.size, 3, none⟩ = some (.int .i64 x.v) ∧ Below wr.heap.size wr w') (first | exact ⟨c0, c1, c2, c3, k0, k1, k2, k3, (Below.refl _ _).drew⟩ | exact ⟨n0, n1, n2, n3, n4, n5, n6, n7, nB⟩)
          (first | (go_at_call 13; refine (HQ.out _).mono ?_; rintro e w2 ⟨rfl, hb2⟩; obtain ⟨hc2, hf2⟩ := bcell hb2; obtain ⟨s0, s1, s2, s3, s4, s5, s6, s7, sB⟩ := ‹_ ∧ _ ∧ _ ∧ _ ∧ _ ∧ _ ∧ _ ∧ _ ∧ Below wr.heap.size wr _›; have hg3 := Nat.lt_of_lt_of_le hg2 sB.size; have hs3 := Nat.lt_of_lt_of_le hs2 sB.size; have n0 := (hc2 _ _ hg3).trans s0; have n1 := (hc2 _ _ hg3).trans s1; have n2 := (hc2 _ _ hg3).trans s2; have n3 := (hc2 _ _ hg3).trans s3; have n4 := (hc2 _ _ hs3).trans s4; have n5 := (hc2 _ _ hs3).trans s5; have n6 := (hc2 _ _ hs3).trans s6; have n7 := (hc2 _ _ hs3).trans s7; have nB := bstep sB hb2; clear hc2 hf2 hg3 hs3))
        go_wp2_with fail
        go_roundw
        case rel => exact ⟨k + 1, by omega, by go_num, bstep hB nB, HK.out.below nB hs2⟩
        case measure => simp [intOf]; omega
      · have hk2 : k = lb x.p x.s l := by omega
        have hf : kbef (l[k]).p (l[k]).s x.p x.s = false := by subst hk2; exact lb_at hlt
        rw [hf] at hq
        have HQ := Lib.hid hq
        have HK2 := Lib.hid hk2
        clear hq hf hk2 hk hkk
        go_wp2_with fail
        go_region_held3 (fun w' => w'.cell? ⟨g, k * 4, none⟩ = some (.string (l[k]).id) ∧ w'.cell? ⟨g, k * 4 + 1, none⟩ = some (.int .i64 (l[k]).p) ∧ w'.cell? ⟨g, k * 4 + 2, none⟩ = some (.int .i64 (l[k]).s) ∧ w'.cell? ⟨g, k * 4 + 3, none⟩ = some (.int .i64 (l[k]).v) ∧
            w'.cell? ⟨w.heap.size, 0, none⟩ = some (.string x.id) ∧ w'.cell? ⟨w.heap.size, 1, none⟩ = some (.int .i64 x.p) ∧ w'.cell? ⟨w.heap.size, 2, none⟩ = some (.int .i64 x.s) ∧ w'.cell? ⟨w.heap.size, 3, none⟩ = some (.int .i64 x.v) ∧ Below wr.heap.size wr w') (first | exact ⟨c0, c1, c2, c3, k0, k1, k2, k3, (Below.refl _ _).drew⟩ | exact ⟨n0, n1, n2, n3, n4, n5, n6, n7, nB⟩)
          (first | (go_at_call 13; refine (HQ.out _).mono ?_; rintro e w2 ⟨rfl, hb2⟩; obtain ⟨hc2, hf2⟩ := bcell hb2; obtain ⟨s0, s1, s2, s3, s4, s5, s6, s7, sB⟩ := ‹_ ∧ _ ∧ _ ∧ _ ∧ _ ∧ _ ∧ _ ∧ _ ∧ Below wr.heap.size wr _›; have hg3 := Nat.lt_of_lt_of_le hg2 sB.size; have hs3 := Nat.lt_of_lt_of_le hs2 sB.size; have n0 := (hc2 _ _ hg3).trans s0; have n1 := (hc2 _ _ hg3).trans s1; have n2 := (hc2 _ _ hg3).trans s2; have n3 := (hc2 _ _ hg3).trans s3; have n4 := (hc2 _ _ hs3).trans s4; have n5 := (hc2 _ _ hs3).trans s5; have n6 := (hc2 _ _ hs3).trans s6; have n7 := (hc2 _ _ hs3).trans s7; have nB := bstep sB hb2; clear hc2 hf2 hg3 hs3))
        have HKW := Lib.hid (HK.out.below nB hs2)
        have HBW := Lib.hid (bstep hB nB)
        have HRW := Lib.hid (HRk.out.below nB hg2)
        have hsw := Nat.lt_of_lt_of_le hs2 nB.size
        have hgw := Nat.lt_of_lt_of_le hg2 nB.size
        clear c0 c1 c2 c3 k0 k1 k2 k3 hB nB HK HRk hs2 hg2
        (try clear n0 n1 n2 n3 n4 n5 n6 n7)
        go_wp2_with fail
        revert HKW HBW HRW hsw hgw
        generalize w2 = W at *
        intro HKW HBW HRW hsw hgw
        have hkl : k ≤ l.length := by omega
        have hkc : k ≤ cap := by omega
        have e1 : (0 : Int) ≤ (k : Int) := by omega
        have e2 : (k : Int) ≤ (l.length : Int) := by omega
        have e3 : (k : Int) ≤ (cap : Int) := by omega
        obtain ⟨A, hA⟩ : ∃ A : Addr, (if cap = k then some (⟨g, 0, none⟩ : Addr) else some ⟨g, k * 4, none⟩) = some A := by
          by_cases h : cap = k
          · exact ⟨_, by rw [if_pos h]⟩
          · exact ⟨_, by rw [if_neg h]⟩
        have hs1 : ∀ W', Below W.heap.size W W' → Src Try.prog 4 33 (.slice (some ⟨g, 0, none⟩) k cap) k (rows (l.take k)) W' := fun W' h => src_take (HRW.out.below h hgw) hkl
        have hs3 : ∀ W', Below W.heap.size W W' → Src Try.prog 4 33 (.slice (some A) (l.length - k) (cap - k)) (l.length - k) (rows (l.drop k)) W' := fun W' h => src_drop (HRW.out.below h hgw) hkl hc hA (cap - k)
        obtain ⟨ga1, ca1, ga2, ca2, ga3, ca3, wa1, wa2, wa3, ra1, ra2, ra3, fa, ga, ba1, ba2, ba3⟩ := chainA (x := x) (below2 W (.cells #[] 23) (.cells (ecells x).toArray 23)) (Nat.le_refl _) (by omega) (fr_a W _) (at_a W _ _ _) rfl hkl hl hs1 hs3
        obtain ⟨gb1, cb1, gb2, cb2, gb3, cb3, wb1, wb2, wb3, rb1, rb2, rb3, fb, gb, bb1, bb2, bb3⟩ := chainA (x := x) (below2 W (.cells (ecells x).toArray 23) (.cells #[] 23)) (by omega) (by omega) (fr_b W _) (at_b W _ _ _) rfl hkl hl hs1 hs3
        obtain ⟨gc1, cc1, gc2, cc2, gc3, cc3, wc1, wc2, wc3, rc1, rc2, rc3, fc, gc, bc1, bc2, bc3⟩ := chainB (x := x) (below1 W (.cells #[] 23)) (Nat.le_refl _) (fr_empty_drew W) rfl hkl hl hs1 hs3
        have FA := Lib.hid (made_of HBW.out rfl HK2.out fa ga ba3)
        have FB := Lib.hid (made_of HBW.out rfl HK2.out fb gb bb3)
        have FC := Lib.hid (made_of HBW.out rfl HK2.out fc gc bc3)
        have hS : ∀ W', Below W.heap.size W W' → (W'.cell? ⟨w.heap.size, 0, none⟩ = some (.string x.id) ∧ W'.cell? ⟨w.heap.size, 1, none⟩ = some (.int .i64 x.p) ∧ W'.cell? ⟨w.heap.size, 2, none⟩ = some (.int .i64 x.s) ∧ W'.cell? ⟨w.heap.size, 3, none⟩ = some (.int .i64 x.v)) := fun W' h =>
          ⟨(HKW.out.below h hsw).cell 0, (HKW.out.below h hsw).cell 1, (HKW.out.below h hsw).cell 2, (HKW.out.below h hsw).cell 3⟩
        have HS := Lib.hid hS
        have BL := Lib.hid (And.intro ba1 (And.intro ba2 (And.intro ba3 (And.intro bb1 (And.intro bb2 (And.intro bb3 (And.intro bc1 (And.intro bc2 (And.intro bc3 (bc1.alloc bc1.size (.cells (ecells x).toArray 23)))))))))))
        have RA1 := Lib.hid ra1; have RA2 := Lib.hid ra2; have RA3 := Lib.hid ra3
        have RB1 := Lib.hid rb1; have RB2 := Lib.hid rb2; have RB3 := Lib.hid rb3
        have RC1 := Lib.hid rc1; have RC2 := Lib.hid rc2; have RC3 := Lib.hid rc3
        clear ra1 ra2 ra3 rb1 rb2 rb3 rc1 rc2 rc3 fa fb fc ga gb gc ba1 ba2 ba3 bb1 bb2 bb3 bc1 bc2 bc3 hS hs1 hs3
        go_region_held3 (fun w' => w'.cell? ⟨w.heap.size, 0, none⟩ = some (.string x.id) ∧ w'.cell? ⟨w.heap.size, 1, none⟩ = some (.int .i64 x.p) ∧ w'.cell? ⟨w.heap.size, 2, none⟩ = some (.int .i64 x.s) ∧ w'.cell? ⟨w.heap.size, 3, none⟩ = some (.int .i64 x.v))
          (first | exact HS.out _ (Below.refl _ _).drew | exact HS.out _ (below1 _ _) | exact HS.out _ (below2 _ _ _) | exact HS.out _ BL.out.1 | exact HS.out _ BL.out.2.1 | exact HS.out _ BL.out.2.2.1 | exact HS.out _ BL.out.2.2.2.1 | exact HS.out _ BL.out.2.2.2.2.1 | exact HS.out _ BL.out.2.2.2.2.2.1 | exact HS.out _ BL.out.2.2.2.2.2.2.1 | exact HS.out _ BL.out.2.2.2.2.2.2.2.1 | exact HS.out _ BL.out.2.2.2.2.2.2.2.2.1 | exact HS.out _ BL.out.2.2.2.2.2.2.2.2.2)
          (first
            | (refine step_app rfl (.tmp 20) (.tmp 23) _ _ (by rfl) _ _ (by rfl) (by rfl) RA1.out ?_)
            | (refine step_app rfl (.tmp 20) (.tmp 23) _ _ (by rfl) _ _ (by rfl) (by rfl) RB1.out ?_)
            | (refine step_app rfl (.tmp 20) (.tmp 23) _ _ (by rfl) _ _ (by rfl) (by rfl) RC1.out ?_)
            | (refine step_app rfl (.tmp 24) (.tmp 26) _ _ (by rfl) _ _ (by rfl) (by rfl) RA2.out ?_)
            | (refine step_app rfl (.tmp 24) (.tmp 26) _ _ (by rfl) _ _ (by rfl) (by rfl) RB2.out ?_)
            | (refine step_app rfl (.tmp 24) (.tmp 26) _ _ (by rfl) _ _ (by rfl) (by rfl) RC2.out ?_)
            | (refine step_app rfl (.tmp 27) (.tmp 30) _ _ (by rfl) _ _ (by rfl) (by rfl) RA3.out ?_)
            | (refine step_app rfl (.tmp 27) (.tmp 30) _ _ (by rfl) _ _ (by rfl) (by rfl) RB3.out ?_)
            | (refine step_app rfl (.tmp 27) (.tmp 30) _ _ (by rfl) _ _ (by rfl) (by rfl) RC3.out ?_))
        all_goals (go_wp2_with fail; go_ret; first | exact FA.out | exact FB.out | exact FC.out)
    · have hk2 : k = lb x.p x.s l := by omega
      have hd : decide ((k : Int) < (l.length : Int)) = false := by simp; omega
      have hd2 : ¬ (k : Int) < (l.length : Int) := by omega
      have HK2 := Lib.hid hk2
      have hd3 : decide (k < l.length) = false := by simp; omega
      have hle : l.length ≤ k := by omega
      clear hk2 hk
      go_wp2_with fail
      go_quiet (fail)
      rename_i nq
      go_wp2_with fail
      have HKW := Lib.hid (HK.out.drewN nq)
      have hB2 := below_drewN hB nq
      have HBW := Lib.hid hB2
      have HRW := Lib.hid (HR.out.below hB2 hg)
      have hsw : w.heap.size < (wr.drewN nq).heap.size := hs2
      have hgw : g < (wr.drewN nq).heap.size := hg2
      have hk2 := HK2.out
      have hkl2 : k ≤ l.length := by omega
      clear k0 k1 k2 k3 hB hB2 HK hs2 hg2 hk2 hlt hd hd2 hd3 hle
      generalize wr.drewN nq = W at *
      have hkl : k ≤ l.length := hkl2
      have hkc : k ≤ cap := by omega
      have e1 : (0 : Int) ≤ (k : Int) := by omega
      have e2 : (k : Int) ≤ (l.length : Int) := by omega
      have e3 : (k : Int) ≤ (cap : Int) := by omega
      obtain ⟨A, hA⟩ : ∃ A : Addr, (if cap = k then some (⟨g, 0, none⟩ : Addr) else some ⟨g, k * 4, none⟩) = some A := by
        by_cases h : cap = k
        · exact ⟨_, by rw [if_pos h]⟩
        · exact ⟨_, by rw [if_neg h]⟩
      have hs1 : ∀ W', Below W.heap.size W W' → Src Try.prog 4 33 (.slice (some ⟨g, 0, none⟩) k cap) k (rows (l.take k)) W' := fun W' h => src_take (HRW.out.below h hgw) hkl
      have hs3 : ∀ W', Below W.heap.size W W' → Src Try.prog 4 33 (.slice (some A) (l.length - k) (cap - k)) (l.length - k) (rows (l.drop k)) W' := fun W' h => src_drop (HRW.out.below h hgw) hkl hc hA (cap - k)
      obtain ⟨ga1, ca1, ga2, ca2, ga3, ca3, wa1, wa2, wa3, ra1, ra2, ra3, fa, ga, ba1, ba2, ba3⟩ := chainA (x := x) (below2 W (.cells #[] 23) (.cells (ecells x).toArray 23)) (Nat.le_refl _) (by omega) (fr_a W _) (at_a W _ _ _) rfl hkl hl hs1 hs3
      obtain ⟨gb1, cb1, gb2, cb2, gb3, cb3, wb1, wb2, wb3, rb1, rb2, rb3, fb, gb, bb1, bb2, bb3⟩ := chainA (x := x) (below2 W (.cells (ecells x).toArray 23) (.cells #[] 23)) (by omega) (by omega) (fr_b W _) (at_b W _ _ _) rfl hkl hl hs1 hs3
      obtain ⟨gc1, cc1, gc2, cc2, gc3, cc3, wc1, wc2, wc3, rc1, rc2, rc3, fc, gc, bc1, bc2, bc3⟩ := chainB (x := x) (below1 W (.cells #[] 23)) (Nat.le_refl _) (fr_empty_drew W) rfl hkl hl hs1 hs3
      have FA := Lib.hid (made_of HBW.out rfl HK2.out fa ga ba3)
      have FB := Lib.hid (made_of HBW.out rfl HK2.out fb gb bb3)
      have FC := Lib.hid (made_of HBW.out rfl HK2.out fc gc bc3)
      have hS : ∀ W', Below W.heap.size W W' → (W'.cell? ⟨w.heap.size, 0, none⟩ = some (.string x.id) ∧ W'.cell? ⟨w.heap.size, 1, none⟩ = some (.int .i64 x.p) ∧ W'.cell? ⟨w.heap.size, 2, none⟩ = some (.int .i64 x.s) ∧ W'.cell? ⟨w.heap.size, 3, none⟩ = some (.int .i64 x.v)) := fun W' h =>
        ⟨(HKW.out.below h hsw).cell 0, (HKW.out.below h hsw).cell 1, (HKW.out.below h hsw).cell 2, (HKW.out.below h hsw).cell 3⟩
      have HS := Lib.hid hS
      have BL := Lib.hid (And.intro ba1 (And.intro ba2 (And.intro ba3 (And.intro bb1 (And.intro bb2 (And.intro bb3 (And.intro bc1 (And.intro bc2 (And.intro bc3 (bc1.alloc bc1.size (.cells (ecells x).toArray 23)))))))))))
      have RA1 := Lib.hid ra1; have RA2 := Lib.hid ra2; have RA3 := Lib.hid ra3
      have RB1 := Lib.hid rb1; have RB2 := Lib.hid rb2; have RB3 := Lib.hid rb3
      have RC1 := Lib.hid rc1; have RC2 := Lib.hid rc2; have RC3 := Lib.hid rc3
      clear ra1 ra2 ra3 rb1 rb2 rb3 rc1 rc2 rc3 fa fb fc ga gb gc ba1 ba2 ba3 bb1 bb2 bb3 bc1 bc2 bc3 hS hs1 hs3
      go_region_held3 (fun w' => w'.cell? ⟨w.heap.size, 0, none⟩ = some (.string x.id) ∧ w'.cell? ⟨w.heap.size, 1, none⟩ = some (.int .i64 x.p) ∧ w'.cell? ⟨w.heap.size, 2, none⟩ = some (.int .i64 x.s) ∧ w'.cell? ⟨w.heap.size, 3, none⟩ = some (.int .i64 x.v))
        (first | exact HS.out _ (Below.refl _ _).drew | exact HS.out _ (below1 _ _) | exact HS.out _ (below2 _ _ _) | exact HS.out _ BL.out.1 | exact HS.out _ BL.out.2.1 | exact HS.out _ BL.out.2.2.1 | exact HS.out _ BL.out.2.2.2.1 | exact HS.out _ BL.out.2.2.2.2.1 | exact HS.out _ BL.out.2.2.2.2.2.1 | exact HS.out _ BL.out.2.2.2.2.2.2.1 | exact HS.out _ BL.out.2.2.2.2.2.2.2.1 | exact HS.out _ BL.out.2.2.2.2.2.2.2.2.1 | exact HS.out _ BL.out.2.2.2.2.2.2.2.2.2)
        (first
          | (refine step_app rfl (.tmp 20) (.tmp 23) _ _ (by rfl) _ _ (by rfl) (by rfl) RA1.out ?_)
          | (refine step_app rfl (.tmp 20) (.tmp 23) _ _ (by rfl) _ _ (by rfl) (by rfl) RB1.out ?_)
          | (refine step_app rfl (.tmp 20) (.tmp 23) _ _ (by rfl) _ _ (by rfl) (by rfl) RC1.out ?_)
          | (refine step_app rfl (.tmp 24) (.tmp 26) _ _ (by rfl) _ _ (by rfl) (by rfl) RA2.out ?_)
          | (refine step_app rfl (.tmp 24) (.tmp 26) _ _ (by rfl) _ _ (by rfl) (by rfl) RB2.out ?_)
          | (refine step_app rfl (.tmp 24) (.tmp 26) _ _ (by rfl) _ _ (by rfl) (by rfl) RC2.out ?_)
          | (refine step_app rfl (.tmp 27) (.tmp 30) _ _ (by rfl) _ _ (by rfl) (by rfl) RA3.out ?_)
          | (refine step_app rfl (.tmp 27) (.tmp 30) _ _ (by rfl) _ _ (by rfl) (by rfl) RB3.out ?_)
          | (refine step_app rfl (.tmp 27) (.tmp 30) _ _ (by rfl) _ _ (by rfl) (by rfl) RC3.out ?_))
      all_goals (go_wp2_with fail; go_ret; first | exact FA.out | exact FB.out | exact FC.out)
end Go.Proofs.Ytmimfhjmhlmibaa
