/- The walks of the reference's Remove, Replace and Promote. -/
import Derived.Test.YtmimfhjmhlmibaaRefG
namespace Go.Proofs.Ytmimfhjmhlmibaa
open Go.RowKit Go.MapKept Go.ChangeMaps
set_option linter.unusedVariables false
attribute [local go_sem ↓] Go.wp_at_zero Go.wp_at_succ

theorem get_remP? (l : List E) (k j : Nat) (hk : k < l.length) : (remP k l)[j]? = if j < k then l[j]? else l[j + 1]? := by
  unfold remP
  have htl : (l.take k).length = k := by rw [List.length_take]; omega
  split
  · rename_i h
    rw [List.getElem?_append_left (by omega), List.getElem?_take, if_pos h]
  · rename_i h
    rw [List.getElem?_append_right (by omega), htl, List.getElem?_drop]
    congr 1
    omega
theorem get_remP {l : List E} {k : Nat} (hk : k < l.length) (j : Nat) (hj : j < (remP k l).length) : (remP k l)[j] = if h : j < k then l[j] else l[j + 1]'(by rw [length_remP hk] at hj; omega) := by
  have hl := length_remP hk
  have h1 := get_remP? l k j hk
  rw [List.getElem?_eq_getElem hj] at h1
  split at h1
  · rename_i h
    rw [dif_pos h]
    rw [List.getElem?_eq_getElem (by omega)] at h1
    exact Option.some.inj h1
  · rename_i h
    rw [dif_neg h]
    rw [List.getElem?_eq_getElem (by omega)] at h1
    exact Option.some.inj h1
theorem lb_remP {l : List E} (hg : Good l) {k : Nat} (hk : k < l.length) : lb l[k].p l[k].s (remP k l) = k := by
  have hl := length_remP hk
  refine lb_of k (by omega) ?_ ?_
  · intro j hj hjk
    rw [get_remP hk j hj, dif_pos hjk]
    exact sorted_get hg.sorted j k hk hjk
  · intro j hj hjk
    rw [get_remP hk j hj, dif_neg (by omega)]
    have := sorted_get hg.sorted k (j + 1) (by omega) (by omega)
    unfold eb
    rw [kbef_false]
    have := kbef_iff.1 this
    omega
theorem ins_rem {l : List E} (hg : Good l) {k : Nat} (hk : k < l.length) {x : E} (hx : x = l[k]) (v : Int) : insP { x with v := v } (remP k l) = l.set k { x with v := v } := by
  have h1 : lb ({ x with v := v } : E).p ({ x with v := v } : E).s (remP k l) = k := by
    subst hx
    exact lb_remP hg hk
  unfold insP
  rw [h1, set_split hk]
  unfold remP
  have htl : (l.take k).length = k := by rw [List.length_take]; omega
  rw [List.take_append, List.drop_append, htl, Nat.sub_self, List.take_zero, List.append_nil, List.drop_zero, List.take_of_length_le (by omega), List.drop_eq_nil_of_le (by omega), List.nil_append]

/-- a list of the reference's and two numbers -/
def RT3 (v : Value) (l' : List E) (u c : Int) (w : World) (e : Ending) (w' : World) : Prop :=
  ∃ v', e = .returned (.tuple #[v', .int .i64 u, .int .i64 c]) ∧ RL w' v' l' ∧ (∀ g, v'.ownBlock = some g → v.ownBlock = some g ∨ w.heap.size ≤ g) ∧ Below w.heap.size w w'
theorem made_rl {l' : List E} {w0 w w' : World} {g cap : Nat} {v : Value} (hF : Fr w' g cap (rows l')) (hb : Below w0.heap.size w0 w) (hg : w.heap.size ≤ g) :
    RL w' (.slice (some ⟨g, 0, none⟩) l'.length cap) l' ∧ (∀ g', (Value.slice (some ⟨g, 0, none⟩) l'.length cap).ownBlock = some g' → v.ownBlock = some g' ∨ w0.heap.size ≤ g') := by
  refine ⟨hF.rl, ?_⟩
  intro g' h
  simp [Value.ownBlock] at h
  subst h
  exact .inr (Nat.le_trans hb.size hg)
theorem reads_of_ix {w : World} {v : Value} {l : List E} {i : ByteArray} (h : RL w v l) (hi : ix i l < l.length) : ∃ g cap : Nat, v = .slice (some ⟨g, 0, none⟩) l.length cap ∧ g < w.heap.size ∧ l.length ≤ cap ∧ cap ≤ 9223372036854775807 ∧ Reads w g l := by
  rcases h.form with ⟨rfl, rfl⟩ | h
  · simp at hi
  · exact h
theorem rfind_yes {w : World} {v : Value} {l : List E} {i : ByteArray} (h : RL w v l) (hl : l.length ≤ 60000) (hi : ix i l < l.length) :
    Calls Try.prog 37 #[v, .string i] w fun e w' => e = .returned (.int .i64 (ix i l : Nat)) ∧ w = w' := by
  have := rfind_any v i l w h hl
  rwa [fx_yes hi] at this
theorem rfind_no {w : World} {v : Value} {l : List E} {i : ByteArray} (h : RL w v l) (hl : l.length ≤ 60000) (hi : ¬ ix i l < l.length) :
    Calls Try.prog 37 #[v, .string i] w fun e w' => e = .returned (.int .i64 (-1)) ∧ w = w' := by
  have := rfind_any v i l w h hl
  rwa [fx_no hi] at this

set_option maxRecDepth 100000 in
set_option maxHeartbeats 4000000 in
theorem rremv_any (v : Value) (l : List E) (i : ByteArray) (w : World) (h : RL w v l) (hl : l.length ≤ 60000) :
    Calls Try.prog 49 #[v, .string i] w (RT3 v (remvP i l).1 (remvP i l).2.1 (remvP i l).2.2 w) := by
  have H := Lib.hid h
  by_cases hi : ix i l < l.length
  · have ha := Lib.hid (show remvP i l = (remP (ix i l) l, l[ix i l].v, 0) by unfold remvP; rw [dif_pos hi])
    have HF := Lib.hid (rfind_yes h hl hi)
    obtain ⟨g, cap, rfl, hg, hc, hm, hr⟩ := reads_of_ix h hi
    obtain ⟨c0, c1, c2, c3⟩ := hr _ hi
    have HR := Lib.hid hr
    clear h hr
    generalize hV : l[ix i l].v = V at *
    have HI := Lib.hid hi
    generalize ix i l = k at *
    have b0 : (0 : Int) ≤ (k : Int) := by omega
    have b1 : (k : Int) < (l.length : Int) := by omega
    have b2 : ¬ (k : Int) < 0 := by omega
    clear hV c0 c1 c2
    go_enter Try.func49, Try.ntmps49
    go_wp2_with fail
    refine HF.out.mono ?_
    rintro e w' ⟨rfl, rfl⟩
    go_wp2_with fail
    go_region_held3 (fun w' => w'.cell? ⟨g, k * 4 + 3, none⟩ = some (.int .i64 V) ∧ Below w.heap.size w w') (first | exact ⟨c3, (Below.refl _ _).drew⟩ | exact ⟨n3, nB⟩)
      (first | (go_at_call 62; obtain ⟨s3, sB⟩ := ‹_ ∧ Below w.heap.size w _›; refine (without_any g cap k l _ (HR.out.below sB hg) (Nat.lt_of_lt_of_le hg sB.size) HI.out hl hc hm).mono ?_; rintro e w2 ⟨g', cap', rfl, hF, hg', hb'⟩; have nB := bstep sB hb'; have n3 := (nB.cell (p := ⟨g, k * 4 + 3, none⟩) hg).trans c3; have HM := Lib.hid (made_rl (v := .slice (some ⟨g, 0, none⟩) l.length cap) hF sB hg'); clear hF hg' hb' sB s3))
    go_wp2_with fail
    have nB2 := nB
    refine bodyPost_ret (v := .tuple #[.slice (some ⟨g', 0, none⟩) (remP k l).length cap', .int .i64 V, .int .i64 0]) (by simp [results, Try.results49, go_sem]) rfl ?_
    rw [ha.out]
    exact ⟨_, rfl, HM.out.1, HM.out.2, nB2⟩
  · have ha := Lib.hid (show remvP i l = (l, 0, 9) by unfold remvP; rw [dif_neg hi])
    have HF := Lib.hid (rfind_no h hl hi)
    clear h hi
    go_enter Try.func49, Try.ntmps49
    go_wp2_with fail
    refine HF.out.mono ?_
    rintro e w' ⟨rfl, rfl⟩
    go_wp2_with fail
    refine bodyPost_ret (v := .tuple #[v, .int .i64 0, .int .i64 9]) (by simp [results, Try.results49, go_sem]) rfl ?_
    rw [ha.out]
    exact ⟨_, rfl, H.out, fun g hg => .inl hg, Below.refl _ _⟩
end Go.Proofs.Ytmimfhjmhlmibaa
