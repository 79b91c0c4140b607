/- The walk of the reference's insert on a nil list; the two as one. -/
import Derived.Test.YtmimfhjmhlmibaaRefE
namespace Go.Proofs.Ytmimfhjmhlmibaa
open Go.RowKit Go.MapKept Go.ChangeMaps
set_option linter.unusedVariables false
attribute [local go_sem ↓] Go.wp_at_zero Go.wp_at_succ

set_option maxRecDepth 100000 in
set_option maxHeartbeats 8000000 in
theorem rins_nil (x : E) (w : World) :
    Calls Try.prog 38 #[.slice none 0 0, .agg #[.string x.id, .int .i64 x.p, .int .i64 x.s, .int .i64 x.v]] w (Made (insP x []) w) := by
  have hB0 : Below w.heap.size w (w.alloc (.cells #[.string x.id, .int .i64 x.p, .int .i64 x.s, .int .i64 x.v] 23)) := (Below.refl _ _).alloc (Nat.le_refl _) _
  have hK0 := At.new w 23 #[.string x.id, .int .i64 x.p, .int .i64 x.s, .int .i64 x.v]
  have hlb : lb x.p x.s [] = 0 := rfl
  have HLB := Lib.hid hlb
  clear hlb
  go_enter Try.func38, Try.ntmps38
  go_wp2_with fail
  go_loopw [5] (fun t5 wr => t5 = .int .i64 0 ∧ Below w.heap.size w wr ∧ At wr w.heap.size 23 #[.string x.id, .int .i64 x.p, .int .i64 x.s, .int .i64 x.v]) (fun t5 _ => 0)
  case atStart => exact ⟨rfl, hB0, hK0⟩
  case round =>
    obtain ⟨rfl, hB, hK⟩ := hrel
    clear hB0 hK0
    have hs2 := hK.lt
    have HK := Lib.hid hK
    clear hK
    go_wp2_with fail
    go_quiet (fail)
    rename_i nq
    go_wp2_with fail
    have HKW := Lib.hid (HK.out.drewN nq)
    have hB2 := below_drewN hB nq
    have HBW := Lib.hid hB2
    have hsw : w.heap.size < (wr.drewN nq).heap.size := hs2
    clear hB hB2 HK hs2
    generalize wr.drewN nq = W at *
    have hsn : ∀ W', Src Try.prog 4 33 (.slice none 0 0) 0 [] W' := fun W' => Src.ofNil W' und_xs 0
    obtain ⟨ga1, ca1, ga2, ca2, ga3, ca3, wa1, wa2, wa3, ra1, ra2, ra3, fa, ga, ba1, ba2, ba3⟩ := chainA (x := x) (l := []) (n := 0) (at' := 0) (u1 := .slice none 0 0) (u3 := .slice none 0 0) (below2 W (.cells #[] 23) (.cells (ecells x).toArray 23)) (Nat.le_refl _) (by omega) (fr_a W _) (at_a W _ _ _) rfl (by omega) (by omega) (fun W' _ => hsn W') (fun W' _ => hsn W')
    obtain ⟨gb1, cb1, gb2, cb2, gb3, cb3, wb1, wb2, wb3, rb1, rb2, rb3, fb, gb, bb1, bb2, bb3⟩ := chainA (x := x) (l := []) (n := 0) (at' := 0) (u1 := .slice none 0 0) (u3 := .slice none 0 0) (below2 W (.cells (ecells x).toArray 23) (.cells #[] 23)) (by omega) (by omega) (fr_b W _) (at_b W _ _ _) rfl (by omega) (by omega) (fun W' _ => hsn W') (fun W' _ => hsn W')
    obtain ⟨gc1, cc1, gc2, cc2, gc3, cc3, wc1, wc2, wc3, rc1, rc2, rc3, fc, gc, bc1, bc2, bc3⟩ := chainB (x := x) (l := []) (n := 0) (at' := 0) (u1 := .slice none 0 0) (u3 := .slice none 0 0) (below1 W (.cells #[] 23)) (Nat.le_refl _) (fr_empty_drew W) rfl (by omega) (by omega) (fun W' _ => hsn W') (fun W' _ => hsn W')
    have FA := Lib.hid (made_of HBW.out rfl HLB.out.symm fa ga ba3)
    have FB := Lib.hid (made_of HBW.out rfl HLB.out.symm fb gb bb3)
    have FC := Lib.hid (made_of HBW.out rfl HLB.out.symm fc gc bc3)
    have hS : ∀ W', Below W.heap.size W W' → (W'.cell? ⟨w.heap.size, 0, none⟩ = some (.string x.id) ∧ W'.cell? ⟨w.heap.size, 1, none⟩ = some (.int .i64 x.p) ∧ W'.cell? ⟨w.heap.size, 2, none⟩ = some (.int .i64 x.s) ∧ W'.cell? ⟨w.heap.size, 3, none⟩ = some (.int .i64 x.v)) := fun W' h =>
      ⟨(HKW.out.below h hsw).cell 0, (HKW.out.below h hsw).cell 1, (HKW.out.below h hsw).cell 2, (HKW.out.below h hsw).cell 3⟩
    have HS := Lib.hid hS
    have BL := Lib.hid (And.intro ba1 (And.intro ba2 (And.intro ba3 (And.intro bb1 (And.intro bb2 (And.intro bb3 (And.intro bc1 (And.intro bc2 (And.intro bc3 (bc1.alloc bc1.size (.cells (ecells x).toArray 23)))))))))))
    have RA1 := Lib.hid ra1; have RA2 := Lib.hid ra2; have RA3 := Lib.hid ra3
    have RB1 := Lib.hid rb1; have RB2 := Lib.hid rb2; have RB3 := Lib.hid rb3
    have RC1 := Lib.hid rc1; have RC2 := Lib.hid rc2; have RC3 := Lib.hid rc3
    clear ra1 ra2 ra3 rb1 rb2 rb3 rc1 rc2 rc3 fa fb fc ga gb gc ba1 ba2 ba3 bb1 bb2 bb3 bc1 bc2 bc3 hS
    go_region_held3 (fun w' => w'.cell? ⟨w.heap.size, 0, none⟩ = some (.string x.id) ∧ w'.cell? ⟨w.heap.size, 1, none⟩ = some (.int .i64 x.p) ∧ w'.cell? ⟨w.heap.size, 2, none⟩ = some (.int .i64 x.s) ∧ w'.cell? ⟨w.heap.size, 3, none⟩ = some (.int .i64 x.v))
      (first | exact HS.out _ (Below.refl _ _).drew | exact HS.out _ (below1 _ _) | exact HS.out _ (below2 _ _ _) | exact HS.out _ BL.out.1 | exact HS.out _ BL.out.2.1 | exact HS.out _ BL.out.2.2.1 | exact HS.out _ BL.out.2.2.2.1 | exact HS.out _ BL.out.2.2.2.2.1 | exact HS.out _ BL.out.2.2.2.2.2.1 | exact HS.out _ BL.out.2.2.2.2.2.2.1 | exact HS.out _ BL.out.2.2.2.2.2.2.2.1 | exact HS.out _ BL.out.2.2.2.2.2.2.2.2.1 | exact HS.out _ BL.out.2.2.2.2.2.2.2.2.2)
      (first
        | (refine step_app rfl (.tmp 20) (.tmp 23) _ _ (by rfl) _ _ (by rfl) (by rfl) RA1.out ?_)
        | (refine step_app rfl (.tmp 20) (.tmp 23) _ _ (by rfl) _ _ (by rfl) (by rfl) RB1.out ?_)
        | (refine step_app rfl (.tmp 20) (.tmp 23) _ _ (by rfl) _ _ (by rfl) (by rfl) RC1.out ?_)
        | (refine step_app rfl (.tmp 24) (.tmp 26) _ _ (by rfl) _ _ (by rfl) (by rfl) RA2.out ?_)
        | (refine step_app rfl (.tmp 24) (.tmp 26) _ _ (by rfl) _ _ (by rfl) (by rfl) RB2.out ?_)
        | (refine step_app rfl (.tmp 24) (.tmp 26) _ _ (by rfl) _ _ (by rfl) (by rfl) RC2.out ?_)
        | (refine step_app rfl (.tmp 27) (.tmp 30) _ _ (by rfl) _ _ (by rfl) (by rfl) RA3.out ?_)
        | (refine step_app rfl (.tmp 27) (.tmp 30) _ _ (by rfl) _ _ (by rfl) (by rfl) RB3.out ?_)
        | (refine step_app rfl (.tmp 27) (.tmp 30) _ _ (by rfl) _ _ (by rfl) (by rfl) RC3.out ?_))
    all_goals (go_wp2_with fail; go_ret; first | exact FA.out | exact FB.out | exact FC.out)

/-- the reference's insert, on any list -/
theorem rins_any (v : Value) (l : List E) (x : E) (w : World) (h : RL w v l) (hl : l.length ≤ 60000) :
    Calls Try.prog 38 #[v, .agg #[.string x.id, .int .i64 x.p, .int .i64 x.s, .int .i64 x.v]] w (Made (insP x l) w) := by
  rcases h.form with ⟨rfl, rfl⟩ | ⟨g, cap, rfl, hg, hc, hm, hr⟩
  · exact rins_nil x w
  · exact rins_some g cap l x w hr hg hl hc hm
end Go.Proofs.Ytmimfhjmhlmibaa
