/- The walks of the reference's without and insert. -/
import Derived.Test.YtmimfhjmhlmibaaRefB
namespace Go.Proofs.Ytmimfhjmhlmibaa
open Go.RowKit Go.MapKept Go.ChangeMaps
set_option linter.unusedVariables false
attribute [local go_sem ↓] Go.wp_at_zero Go.wp_at_succ

theorem src_drop {w : World} {g cap at' : Nat} {l : List E} {A : Addr} (h : Reads w g l) (hat : at' ≤ l.length) (hc : l.length ≤ cap) (hA : (if cap = at' then some (⟨g, 0, none⟩ : Addr) else some ⟨g, at' * 4, none⟩) = some A) (c : Nat) :
    Src Try.prog 4 33 (.slice (some A) (l.length - at') c) (l.length - at') (rows (l.drop at')) w :=
  Src.ofSlice w und_xs A (l.length - at') c _ (by rw [rows_length, List.length_drop]) (fun j u hj => by
    by_cases hca : cap = at'
    · have : j < (rows (l.drop at')).length := (List.getElem?_eq_some_iff.1 hj).1
      rw [rows_length, List.length_drop] at this
      omega
    · rw [if_neg hca] at hA
      obtain rfl := Option.some.inj hA
      rw [Addr.add_lit]
      rw [← rows_drop, List.getElem?_drop] at hj
      exact reads_cell h _ u hj) (one_rows _)
theorem Fr.empty (w : World) : Fr (w.alloc (.cells #[] 23)) w.heap.size 0 [] := ⟨[], At.new w _ #[], rfl, by omega⟩

/-- a fresh list of the reference's -/
def Made (l' : List E) (w : World) (e : Ending) (w' : World) : Prop := ∃ g cap : Nat, e = .returned (.slice (some ⟨g, 0, none⟩) l'.length cap) ∧ Fr w' g cap (rows l') ∧ w.heap.size ≤ g ∧ Below w.heap.size w w'

set_option maxRecDepth 100000 in
set_option maxHeartbeats 4000000 in
theorem without_any (g cap i : Nat) (l : List E) (w : World) (hr : Reads w g l) (hg : g < w.heap.size) (hi : i < l.length) (hl : l.length ≤ 60000) (hc : l.length ≤ cap) (hm : cap ≤ 9223372036854775807) :
    Calls Try.prog 62 #[.slice (some ⟨g, 0, none⟩) l.length cap, .int .i64 (i : Nat)] w (Made (remP i l) w) := by
  have hic : i ≤ cap := by omega
  have hjc : i + 1 ≤ cap := by omega
  have hw1 : IntKind.i64.wrap ((i : Int) + 1) = (i : Int) + 1 := by rw [IntKind.wrap_i64]; omega
  have hb1 : (0 : Int) ≤ (i : Int) + 1 := by omega
  have hb2 : (i : Int) + 1 ≤ (l.length : Int) := by omega
  have hb3 : (i : Int) ≤ (cap : Int) := by omega
  have htn : ((i : Int) + 1).toNat = i + 1 := by omega
  obtain ⟨A, hA⟩ : ∃ A : Addr, (if cap = i + 1 then some (⟨g, 0, none⟩ : Addr) else some ⟨g, (i + 1) * 4, none⟩) = some A := by
    by_cases h : cap = i + 1
    · exact ⟨_, by rw [if_pos h]⟩
    · exact ⟨_, by rw [if_neg h]⟩
  have HR := Lib.hid hr
  have HA := Lib.hid hA
  have e1 := Lib.hid (rows_append (l.take i) (l.drop (i + 1)))
  have e2 := Lib.hid (length_remP hi)
  have htl := Lib.hid (show (rows (l.take i)).length = (0 + i) * 4 by rw [rows_length, List.length_take]; congr 1; omega)
  have hb0 : Below w.heap.size w (w.alloc (.cells #[] 23)).drew := ((Below.refl _ _).alloc (Nat.le_refl _) _).drew
  have hF0 : Fr (w.alloc (.cells #[] 23)).drew w.heap.size 0 [] := (Fr.empty w).keep (Keep.drew (fun _ => False) _) id
  obtain ⟨v1, w1, hr1, g1, cap1, rfl, hF1, hg1, hk1⟩ := app_run hF0 (n := 0) rfl (src_take (at' := i) (cap := cap) (hr.below hb0 hg) (by omega)) (by omega)
  have hb1' := hb0.trans (hk1.below hb0.size (fun r hr h => by omega))
  have hs0 := hb0.size
  have hg1' : w.heap.size ≤ g1 := by omega
  obtain ⟨v2, w2, hr2, g2, cap2, rfl, hF2, hg2, hk2⟩ := app_run hF1 (n := 0 + i) htl.out (src_drop (at' := i + 1) (A := A) (hr.below hb1' hg) (by omega) hc hA (cap - (i + 1))) (by omega)
  have hb2' := hb1'.trans (hk2.below hb1'.size (fun r hr h => by omega))
  have hs1 := hb1'.size
  have fin := Lib.hid (show Made (remP i l) w (.returned (.slice (some ⟨g2, 0, none⟩) (i + (l.length - (i + 1))) cap2)) w2 from ⟨g2, cap2, by rw [e2.out, show i + (l.length - (i + 1)) = l.length - 1 by omega], by rw [remP, e1.out]; exact hF2, by omega, hb2'⟩)
  have R1 := Lib.hid (hr1 33)
  have R2 := Lib.hid (hr2 33)
  clear hr hb0 hF0 hr1 hF1 hg1 hk1 hb1' hg1' hr2 hF2 hg2 hk2 hb2' hs0 hs1
  go_enter Try.func62, Try.ntmps62
  go_wp2_with fail
  go_region_held3 (fun w' => True) (exact True.intro)
    (first
      | (refine step_app rfl (.tmp 5) (.tmp 8) _ _ (by rfl) _ _ (by rfl) (by rfl) R1.out ?_)
      | (refine step_app rfl (.tmp 9) (.tmp 13) _ _ (by rfl) _ _ (by rfl) (by rfl) R2.out ?_))
  go_wp2_with fail
  go_ret
  exact fin.out
end Go.Proofs.Ytmimfhjmhlmibaa
