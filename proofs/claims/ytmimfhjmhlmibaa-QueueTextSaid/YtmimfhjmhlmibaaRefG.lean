/- The walk of the reference's Add. -/
import Derived.Test.YtmimfhjmhlmibaaRefF
namespace Go.Proofs.Ytmimfhjmhlmibaa
open Go.RowKit Go.MapKept Go.ChangeMaps
set_option linter.unusedVariables false
attribute [local go_sem ↓] Go.wp_at_zero Go.wp_at_succ

/-- a list of the reference's and a number -/
def RT (v : Value) (l' : List E) (c : Int) (w : World) (e : Ending) (w' : World) : Prop :=
  ∃ v', e = .returned (.tuple #[v', .int .i64 c]) ∧ RL w' v' l' ∧ (∀ g, v'.ownBlock = some g → v.ownBlock = some g ∨ w.heap.size ≤ g) ∧ Below w.heap.size w w'
theorem ex_ix {i : ByteArray} {l : List E} : (∃ e ∈ l, e.id = i) ↔ ix i l < l.length := by
  constructor
  · rintro ⟨e, he, h⟩
    exact List.findIdx_lt_length_of_exists ⟨e, he, by simpa using h⟩
  · intro h
    exact ⟨_, List.getElem_mem h, ix_id h⟩
/-- the first place of a sequence number -/
def jx (s : Int) (l : List E) : Nat := l.findIdx (fun e => decide (e.s = s))
theorem jx_le (s : Int) (l : List E) : jx s l ≤ l.length := List.findIdx_le_length
theorem ex_jx {s : Int} {l : List E} : (∃ e ∈ l, e.s = s) ↔ jx s l < l.length := by
  constructor
  · rintro ⟨e, he, h⟩
    exact List.findIdx_lt_length_of_exists ⟨e, he, by simpa using h⟩
  · intro h
    exact ⟨_, List.getElem_mem h, of_decide_eq_true (List.findIdx_getElem (w := h))⟩
theorem jx_at {s : Int} {l : List E} (h : jx s l < l.length) : l[jx s l].s = s := of_decide_eq_true (List.findIdx_getElem (w := h))
theorem jx_before {s : Int} {l : List E} (k : Nat) (hk : k < jx s l) : (l[k]'(Nat.lt_of_lt_of_le hk (jx_le s l))).s ≠ s := by
  have := List.not_of_lt_findIdx hk
  simpa using this
theorem fx_yes {i : ByteArray} {l : List E} (h : ix i l < l.length) : fxP i l = (ix i l : Nat) := by unfold fxP; rw [if_pos h]
theorem fx_no {i : ByteArray} {l : List E} (h : ¬ ix i l < l.length) : fxP i l = -1 := by unfold fxP; rw [if_neg h]

set_option maxRecDepth 100000 in
set_option maxHeartbeats 8000000 in
theorem radd_any (v : Value) (l : List E) (x : E) (w : World) (h : RL w v l) (hl : l.length ≤ 60000) :
    Calls Try.prog 16 #[v, .agg #[.string x.id, .int .i64 x.p, .int .i64 x.s, .int .i64 x.v]] w (RT v (addP x l).1 (addP x l).2 w) := by
  have H := Lib.hid h
  have hB0 : Below w.heap.size w (w.alloc (.cells #[.string x.id, .int .i64 x.p, .int .i64 x.s, .int .i64 x.v] 23)) := (Below.refl _ _).alloc (Nat.le_refl _) _
  have hK0 := At.new w 23 #[.string x.id, .int .i64 x.p, .int .i64 x.s, .int .i64 x.v]
  have HB := Lib.hid hB0
  have HK := Lib.hid hK0
  have fin : ∀ (c : Int) (w' : World), Below w.heap.size w w' → RT v l c w (.returned (.tuple #[v, .int .i64 c])) w' := fun c w' hb => ⟨v, rfl, h.below hb, fun g hg => .inl hg, hb⟩
  have FIN := Lib.hid fin
  clear h hB0 hK0 fin
  by_cases h0 : x.id.size = 0
  · have ha := Lib.hid (show addP x l = (l, 6) by unfold addP; rw [if_pos (.inl h0)])
    have h1 : ((x.id.size : Int) == 0) = true := by simp [h0]
    go_enter Try.func16, Try.ntmps16
    go_wp2_with fail
    go_ret2
    rw [ha.out]
    exact FIN.out _ _ HB.out
  have h1 : ¬ (x.id.size : Int) = 0 := by omega
  have h1b : ((x.id.size : Int) == 0) = false := by rw [beq_eq_false_iff_ne]; omega
  by_cases h64 : 64 < x.id.size
  · have ha := Lib.hid (show addP x l = (l, 6) by unfold addP; rw [if_pos (.inr h64)])
    go_enter Try.func16, Try.ntmps16
    go_wp2_with fail
    go_ret2
    rw [ha.out]
    exact FIN.out _ _ HB.out
  have hc1 := Lib.hid (show ¬ (x.id.size = 0 ∨ 64 < x.id.size) by omega)
  by_cases hp1 : x.p < 0
  · have ha := Lib.hid (show addP x l = (l, 2) by unfold addP; rw [if_neg hc1.out, if_pos (.inl (by omega))])
    go_enter Try.func16, Try.ntmps16
    go_wp2_with fail
    go_ret2
    rw [ha.out]
    exact FIN.out _ _ HB.out
  by_cases hp2 : 2 < x.p
  · have ha := Lib.hid (show addP x l = (l, 2) by unfold addP; rw [if_neg hc1.out, if_pos (.inl (by omega))])
    go_enter Try.func16, Try.ntmps16
    go_wp2_with fail
    go_ret2
    rw [ha.out]
    exact FIN.out _ _ HB.out
  by_cases hs0 : x.s < 0
  · have ha := Lib.hid (show addP x l = (l, 2) by unfold addP; rw [if_neg hc1.out, if_pos (.inr hs0)])
    go_enter Try.func16, Try.ntmps16
    go_wp2_with fail
    go_ret2
    rw [ha.out]
    exact FIN.out _ _ HB.out
  have hc2 := Lib.hid (show ¬ (¬ (0 ≤ x.p ∧ x.p ≤ 2) ∨ x.s < 0) by omega)
  have HF := Lib.hid (rfind_any v x.id l _ (H.out.below HB.out) hl)
  by_cases hid : ix x.id l < l.length
  · have ha := Lib.hid (show addP x l = (l, 7) by unfold addP; rw [if_neg hc1.out, if_neg hc2.out, if_pos (ex_ix.2 hid)])
    have hf := HF.out
    rw [fx_yes hid] at hf
    have HF2 := Lib.hid hf
    clear hf hid
    go_enter Try.func16, Try.ntmps16
    go_wp2_with fail
    refine HF2.out.mono ?_
    rintro e w' ⟨rfl, rfl⟩
    go_wp2_with fail
    go_ret2
    rw [ha.out]
    exact FIN.out _ _ HB.out
  have hf := HF.out
  rw [fx_no hid] at hf
  have HF2 := Lib.hid hf
  have HID := Lib.hid (show ¬ ∃ e ∈ l, e.id = x.id from fun h => hid (ex_ix.1 h))
  clear hf hid HF
  have hjl := jx_le x.s l
  have hlast : ∀ (W : World), jx x.s l = l.length → Below w.heap.size w W → Calls Try.prog 38 #[v, .agg #[.string x.id, .int .i64 x.p, .int .i64 x.s, .int .i64 x.v]] W fun e w' => ∃ v', e = .returned v' ∧ RT v (addP x l).1 (addP x l).2 w (.returned (.tuple #[v', .int .i64 0])) w' := fun W hj hb => by
    refine (rins_any v l x W (H.out.below hb) hl).mono ?_
    rintro e w' ⟨g', cap', rfl, hF, hg', hb'⟩
    refine ⟨_, rfl, ?_⟩
    have ha : addP x l = (insP x l, 0) := by
      unfold addP
      rw [if_neg hc1.out, if_neg hc2.out, if_neg HID.out, if_neg]
      intro h
      have := ex_jx.1 h
      omega
    rw [ha]
    refine ⟨_, rfl, hF.rl, ?_, hb.trans (hb'.mono hb.size)⟩
    intro g hg
    simp [Value.ownBlock] at hg
    subst hg
    exact .inr (Nat.le_trans hb.size hg')
  have HL := Lib.hid hlast
  clear hlast
  rcases H.out.form with ⟨rfl, rfl⟩ | ⟨g, cap, rfl, hg, hc, hm, hr⟩
  · have hB := HB.out
    have hK := HK.out
    go_enter Try.func16, Try.ntmps16
    go_wp2_with fail
    refine HF2.out.mono ?_
    rintro e w' ⟨rfl, rfl⟩
    go_wp2_with fail
    generalize w.alloc (.cells #[.string x.id, .int .i64 x.p, .int .i64 x.s, .int .i64 x.v] 23) = w0 at *
    go_loop [6] (fun t => t = .int .i64 0) (fun t => 0)
    case atStart => rfl
    case round =>
      obtain rfl := hrel
      have k0 : w0.cell? ⟨w.heap.size, 0, none⟩ = some (.string x.id) := hK.cell 0
      have k1 : w0.cell? ⟨w.heap.size, 1, none⟩ = some (.int .i64 x.p) := hK.cell 1
      have k2 : w0.cell? ⟨w.heap.size, 2, none⟩ = some (.int .i64 x.s) := hK.cell 2
      have k3 : w0.cell? ⟨w.heap.size, 3, none⟩ = some (.int .i64 x.v) := hK.cell 3
      go_wp2_with fail
      refine (HL.out _ rfl hB).mono ?_
      rintro e w2 ⟨v', rfl, hrt⟩
      have HRT := Lib.hid hrt
      clear hrt
      go_wp2_with fail
      go_ret2
      exact HRT.out
  · have HR := Lib.hid hr
    clear hr
    have hB := HB.out
    have hK := HK.out
    go_enter Try.func16, Try.ntmps16
    go_wp2_with fail
    refine HF2.out.mono ?_
    rintro e w' ⟨rfl, rfl⟩
    go_wp2_with fail
    go_loopw [6] (fun t wr => ∃ k : Nat, k ≤ jx x.s l ∧ t = .int .i64 (k : Int) ∧ Below w.heap.size w wr ∧ At wr w.heap.size 23 #[.string x.id, .int .i64 x.p, .int .i64 x.s, .int .i64 x.v]) (fun t _ => l.length - (intOf t).toNat)
    case atStart => exact ⟨0, Nat.zero_le _, rfl, hB, hK⟩
    case round =>
      obtain ⟨k, hk, rfl, hB', hK'⟩ := hrel
      clear hB hK
      have k0 : wr.cell? ⟨w.heap.size, 0, none⟩ = some (.string x.id) := hK'.cell 0
      have k1 : wr.cell? ⟨w.heap.size, 1, none⟩ = some (.int .i64 x.p) := hK'.cell 1
      have k2 : wr.cell? ⟨w.heap.size, 2, none⟩ = some (.int .i64 x.s) := hK'.cell 2
      have k3 : wr.cell? ⟨w.heap.size, 3, none⟩ = some (.int .i64 x.v) := hK'.cell 3
      have HK' := Lib.hid hK'
      clear hK'
      by_cases hlt : k < l.length
      · obtain ⟨c0, c1, c2, c3⟩ := (HR.out.below hB' hg) k hlt
        have b0 : (0 : Int) ≤ (k : Int) := by omega
        have b1 : (k : Int) < (l.length : Int) := by omega
        by_cases hkk : k = jx x.s l
        · have hseq : l[k].s = x.s := by subst hkk; exact jx_at hlt
          have ha := Lib.hid (show addP x l = (l, 23) by unfold addP; rw [if_neg hc1.out, if_neg hc2.out, if_neg HID.out, if_pos (ex_jx.2 (by omega))])
          rw [hseq] at c2
          clear hseq hkk hk hjl
          go_wp2_with fail
          go_region_held3 (fun w' => w'.cell? ⟨g, k * 4 + 2, none⟩ = some (.int .i64 x.s) ∧ w'.cell? ⟨w.heap.size, 2, none⟩ = some (.int .i64 x.s)) (exact ⟨c2, k2⟩) (fail)
          go_wp2_with fail
          go_ret2
          rw [ha.out]
          exact FIN.out _ _ hB'.drew
        · have hne : ¬ l[k].s = x.s := jx_before k (by omega)
          have hne2 : (l[k].s == x.s) = false := by rw [beq_eq_false_iff_ne]; exact hne
          go_wp2_with fail
          go_region_held3 (fun w' => w'.cell? ⟨g, k * 4 + 2, none⟩ = some (.int .i64 l[k].s) ∧ w'.cell? ⟨w.heap.size, 2, none⟩ = some (.int .i64 x.s)) (exact ⟨c2, k2⟩) (fail)
          go_wp2_with fail
          go_roundw
          case rel => exact ⟨k + 1, by omega, by go_num, hB'.drew, HK'.out.drew⟩
          case measure => simp [intOf]; omega
      · have hj : jx x.s l = l.length := by omega
        have HJ := Lib.hid hj
        clear hj hk hjl
        go_wp2_with fail
        refine (HL.out _ HJ.out hB').mono ?_
        rintro e w2 ⟨v', rfl, hrt⟩
        have HRT := Lib.hid hrt
        clear hrt
        go_wp2_with fail
        go_ret2
        exact HRT.out
end Go.Proofs.Ytmimfhjmhlmibaa
