/- The walks of Remove, Promote and Replace. -/
import Derived.Test.YtmimfhjmhlmibaaRemove
namespace Go.Proofs.Ytmimfhjmhlmibaa
open Go.RowKit Go.MapKept Go.ChangeMaps
set_option linter.unusedVariables false
attribute [local go_sem ↓] Go.wp_at_zero Go.wp_at_succ

/-- the first place of a name; the length if there is none -/
def ix (i : ByteArray) (l : List E) : Nat := l.findIdx (fun e => decide (e.id = i))
theorem ix_id {i : ByteArray} {l : List E} (h : ix i l < l.length) : l[ix i l].id = i := by
  have := List.findIdx_getElem (w := h)
  exact of_decide_eq_true this
theorem ix_none {i : ByteArray} {l : List E} (h : ¬ ix i l < l.length) : ∀ e ∈ l, e.id ≠ i := by
  intro e he h2
  exact h (List.findIdx_lt_length_of_exists ⟨e, he, by simpa using h2⟩)
theorem ix_le (i : ByteArray) (l : List E) : ix i l ≤ l.length := List.findIdx_le_length

open Classical in
/-- what Remove answers, and what it leaves -/
noncomputable def remvP (i : ByteArray) (l : List E) : List E × Int × Int := if h : ix i l < l.length then (remP (ix i l) l, l[ix i l].v, 0) else (l, 0, 9)
open Classical in
noncomputable def promP (i : ByteArray) (p : Int) (l : List E) : List E × Int :=
  if h : ix i l < l.length then (if ¬ (0 ≤ p ∧ p ≤ 2) then (l, 2) else (insP { l[ix i l] with p := p } (remP (ix i l) l), 0)) else (l, 9)
open Classical in
noncomputable def replP (i : ByteArray) (v : Int) (l : List E) : List E × Int :=
  if h : ix i l < l.length then (l.set (ix i l) { l[ix i l] with v := v }, 0) else (l, 9)

theorem remv_yes {i : ByteArray} {l : List E} (h : ix i l < l.length) : ∃ (k : Nat) (hk : k < l.length) (x : E), x = l[k] ∧ x.id = i ∧ remvP i l = (remP k l, x.v, 0) :=
  ⟨ix i l, h, _, rfl, ix_id h, by unfold remvP; rw [dif_pos h]⟩
theorem prom_yes {i : ByteArray} {l : List E} (p : Int) (h : ix i l < l.length) : ∃ (k : Nat) (hk : k < l.length) (x : E), x = l[k] ∧ x.id = i ∧ promP i p l = if ¬ (0 ≤ p ∧ p ≤ 2) then (l, 2) else (insP { x with p := p } (remP k l), 0) :=
  ⟨ix i l, h, _, rfl, ix_id h, by unfold promP; rw [dif_pos h]⟩
theorem repl_yes {i : ByteArray} {l : List E} (v : Int) (h : ix i l < l.length) : ∃ (k : Nat) (hk : k < l.length) (x : E), x = l[k] ∧ x.id = i ∧ replP i v l = (l.set k { x with v := v }, 0) :=
  ⟨ix i l, h, _, rfl, ix_id h, by unfold replP; rw [dif_pos h]⟩
theorem index_at {w : World} {q g m1 m2 k : Nat} {l : List E} (h : Qu w q g m1 m2 l) {i : ByteArray} {x : E} (hk : k < l.length) (hx : x = l[k]) (hi : x.id = i) (hl : l.length ≤ 100000) :
    Calls Try.prog 46 #[.pointer (some ⟨q, 0, none⟩), .string i] w fun e w' => e = .returned (.tuple #[.int .i64 (k : Nat), .int .i64 0]) ∧ Below w.heap.size w w' := by
  have := index_present h k hk hl
  subst hx
  rwa [hi] at this
theorem Removed.turned {q g m1 m2 i : Nat} {l : List E} {x : E} {w0 w w' : World} {e : Ending} (hb : Below w0.heap.size w0 w) (h : Removed q g m1 m2 i l x w e w') : ∃ g', Qu w' q g' m1 m2 (remP i l) ∧ (g' = g ∨ w0.heap.size ≤ g') ∧ Keep (ZQ q g m1 m2) w0 w' :=
  ⟨g, h.2.1, .inl rfl, (Keep.of hb).trans h.2.2⟩

theorem field_v (x : E) (w : World) : (Instr.field 88 (.agg #[.string x.id, .int .i64 x.p, .int .i64 x.s, .int .i64 x.v]) 2).run Try.prog w = .ok (.int .i64 x.v) w := by kernel_rfl

set_option maxRecDepth 100000 in
set_option maxHeartbeats 4000000 in
theorem remv_any (q g m1 m2 : Nat) (l : List E) (i : ByteArray) (w : World) (h : Qu w q g m1 m2 l) (hl : l.length ≤ 60000) :
    Calls Try.prog 23 #[.pointer (some ⟨q, 0, none⟩), .string i] w (Turned q g m1 m2 (remvP i l).1 (.returned (.tuple #[.int .i64 (remvP i l).2.1, .int .i64 (remvP i l).2.2])) w) := by
  have H := Lib.hid h
  have HL := Lib.hid hl
  by_cases hi : ix i l < l.length
  · obtain ⟨k, hk, x, hx, hid, ha⟩ := remv_yes hi
    have hc := Lib.hid (index_at h hk hx hid (by omega))
    have HK := Lib.hid hk
    have HA := Lib.hid ha
    have HX := Lib.hid hx
    clear h hi hx ha hl hid
    go_enter Try.func23, Try.ntmps23
    go_wp2_with fail
    refine hc.out.mono ?_
    rintro e w2 ⟨rfl, hb⟩
    go_wp2_with fail
    refine (remove_any q g m1 m2 k l x w2 (H.out.below hb) (by have := HL.out; omega) HK.out HX.out.symm).mono ?_
    rintro e w3 hr
    have HR := Lib.hid (hr.turned hb)
    obtain ⟨rfl, -, -⟩ := hr
    have hfv := field_v x
    go_wp2_with fail
    go_ret2
    rw [HA.out]
    exact ⟨rfl, HR.out⟩
  · have ha := Lib.hid (show remvP i l = (l, 0, 9) by unfold remvP; rw [dif_neg hi])
    have hc := Lib.hid (index_absent h i (by omega) (ix_none hi))
    clear h hi hl
    go_enter Try.func23, Try.ntmps23
    go_wp2_with fail
    refine hc.out.mono ?_
    rintro e w2 ⟨rfl, hb⟩
    go_wp2_with fail
    go_ret2
    rw [ha.out]
    exact ⟨rfl, Turned.same H.out hb⟩

set_option maxRecDepth 100000 in
set_option maxHeartbeats 4000000 in
theorem prom_any (q g m1 m2 : Nat) (l : List E) (i : ByteArray) (p : Int) (w : World) (h : Qu w q g m1 m2 l) (hl : l.length ≤ 60000) :
    Calls Try.prog 24 #[.pointer (some ⟨q, 0, none⟩), .string i, .int .i64 p] w (Turned q g m1 m2 (promP i p l).1 (.returned (.int .i64 (promP i p l).2)) w) := by
  have H := Lib.hid h
  have HL := Lib.hid hl
  by_cases hi : ix i l < l.length
  · obtain ⟨k, hk, x, hx, hid, ha⟩ := prom_yes p hi
    have hc := Lib.hid (index_at h hk hx hid (by omega))
    have HK := Lib.hid hk
    have HX := Lib.hid hx
    by_cases hp : 0 ≤ p ∧ p ≤ 2
    · rw [if_neg (fun h => h hp)] at ha
      have HA := Lib.hid ha
      have HP := Lib.hid hp
      have hgood := h.good
      have hlr := length_remP hk
      clear h hi hx ha hl hid hp
      go_enter Try.func24, Try.ntmps24
      have HG := Lib.hid hgood
      have HLR := Lib.hid hlr
      clear hgood hlr
      go_wp2_with fail
      refine hc.out.mono ?_
      rintro e w2 ⟨rfl, hb⟩
      go_wp2_with (go_at_call 39; refine (valid_yes _ _ HP.out).mono ?_; rintro e w' ⟨rfl, rfl⟩)
      refine (remove_any q g m1 m2 k l x w2 (H.out.below hb) (by have := HL.out; omega) HK.out HX.out.symm).mono ?_
      rintro e w3 ⟨rfl, hq3, hk3⟩
      have hE := At.new w3 88 #[.string x.id, .int .i64 x.p, .int .i64 x.s, .int .i64 x.v]
      have hb3 : Below w3.heap.size w3 (w3.alloc (.cells #[.string x.id, .int .i64 p, .int .i64 x.s, .int .i64 x.v] 88)) := (Below.refl _ _).alloc (Nat.le_refl _) _
      have HQ3 := Lib.hid (hq3.below hb3)
      have HB3 := Lib.hid hb3
      have HK3 := Lib.hid hk3
      have hids := Lib.hid (rem_ids HG.out hk)
      have hseqs := Lib.hid (rem_seqs HG.out hk)
      clear hq3 hb3 hk3 hE
      go_wp2_with fail
      refine (enter_any q g m1 m2 (remP k l) { x with p := p } _ HQ3.out (by have := HL.out; have := HLR.out; omega) (by rw [HX.out]; exact hids.out) (by rw [HX.out]; exact hseqs.out)).mono ?_
      rintro e w5 ⟨rfl, g', hq5, hg5, hk5⟩
      have HF := Lib.hid (show ∃ g', Qu w5 q g' m1 m2 (insP { x with p := p } (remP k l)) ∧ (g' = g ∨ w.heap.size ≤ g') ∧ Keep (ZQ q g m1 m2) w w5 from by
        have h1 : Keep (ZQ q g m1 m2) w w5 := (((Keep.of hb).trans HK3.out).trans (Keep.of HB3.out)).trans hk5
        refine ⟨g', hq5, ?_, h1⟩
        rcases hg5 with h | h
        · exact .inl h
        · exact .inr (Nat.le_trans (((Keep.of (Z := ZQ q g m1 m2) hb).trans HK3.out).trans (Keep.of HB3.out)).size h))
      clear hq5 hg5 hk5
      go_wp2_with fail
      go_ret
      rw [HA.out]
      exact ⟨rfl, HF.out⟩
    · rw [if_pos hp] at ha
      have HA := Lib.hid ha
      have HP := Lib.hid hp
      clear h hi hx ha hl hid hp
      go_enter Try.func24, Try.ntmps24
      go_wp2_with fail
      refine hc.out.mono ?_
      rintro e w2 ⟨rfl, hb⟩
      go_wp2_with (go_at_call 39; refine (valid_no _ _ HP.out).mono ?_; rintro e w' ⟨rfl, rfl⟩)
      go_ret
      rw [HA.out]
      exact ⟨rfl, Turned.same H.out hb⟩
  · have ha := Lib.hid (show promP i p l = (l, 9) by unfold promP; rw [dif_neg hi])
    have hc := Lib.hid (index_absent h i (by omega) (ix_none hi))
    clear h hi hl
    go_enter Try.func24, Try.ntmps24
    go_wp2_with fail
    refine hc.out.mono ?_
    rintro e w2 ⟨rfl, hb⟩
    go_wp2_with fail
    go_ret
    rw [ha.out]
    exact ⟨rfl, Turned.same H.out hb⟩
end Go.Proofs.Ytmimfhjmhlmibaa
