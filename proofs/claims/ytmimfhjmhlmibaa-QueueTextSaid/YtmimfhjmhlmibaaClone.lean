/- The walk of slices.Clone at the queue's items. -/
import Derived.Test.YtmimfhjmhlmibaaBuild
namespace Go.Proofs.Ytmimfhjmhlmibaa
open Go.RowKit Go.MapKept Go.ChangeMaps
set_option linter.unusedVariables false
attribute [local go_sem ↓] Go.wp_at_zero Go.wp_at_succ

theorem und_es : Try.prog.underlying 85 = some (.slice 88) := Try.underlying85
/-- what is appended to an empty row -/
theorem fresh_run {w : World} {g m : Nat} {l : List E} {u : Value} (h : At w g 88 #[]) (hm : m = l.length) (hs : Src Try.prog 4 85 u m (rows l) w) (hb : m ≤ 100000) :
    ∃ g' cap' w', (∀ ty, (Builtin.append_ #[85, 85] ty #[.slice (some ⟨g, 0, none⟩) 0 0, u]).run Try.prog w = .ok (.slice (some ⟨g', 0, none⟩) m cap') w') ∧ RowAt w' g' cap' l ∧ cap' ≤ 9223372036854775807 ∧ (g' = g ∨ g' = w.heap.size) ∧ Keep (· = g) w w' := by
  obtain ⟨i0, hi0, hz0, hzs, hzb⟩ := info_parts info_entry
  have hs0 : Src Try.prog i0.size 85 u m (rows l) w := by rw [hzs]; exact hs
  subst hm
  by_cases hz : l.length = 0
  · obtain rfl := List.length_eq_zero_iff.1 hz
    have hr := fun ty => run_append_room_src (P := Try.prog) w 85 85 ty 88 i0 und_es hi0 g 0 0 0 u 0 (rows []) hs0 (Nat.le_refl _) (fun j hj => absurd hj (by simp [rows])) (fun j hj => absurd hj (by simp [rows]))
    exact ⟨g, 0, _, hr, ⟨[], h, rfl⟩, by omega, .inl rfl, Keep.refl _ _⟩
  · have hold : (Builtin.firstCells i0.size 0 (.slice (some ⟨g, 0, none⟩) 0 0)).run Try.prog w.drew = .ok #[] w.drew := by
      rw [hzs]
      exact run_firstCells_some w.drew 4 0 ⟨g, 0, none⟩ 0 0 [] rfl (fun j v hj => by simp at hj)
    have hr := fun ty => run_append_grow_src (P := Try.prog) w 85 85 ty 88 i0 _ und_es hi0 hz0 (some ⟨g, 0, none⟩) 0 0 [] hold u l.length (rows l) hs0 (by omega) (by omega) (by rw [hzb]; exact growslice_fits (by omega) (by omega))
    have hge := grownCap_ge w (0 + l.length) 0 88
    have hle := grown_bound w (0 + l.length) 0 88 (by omega)
    refine ⟨w.heap.size, _, _, fun ty => by have := hr ty; rw [Nat.zero_add] at this ⊢; exact this, ?_, hle, .inr rfl, (Keep.drew _ _).trans (Keep.alloc _ _ _)⟩
    rw [Nat.zero_add] at hge ⊢
    exact RowAt.made w.drew l _ _ (by omega)

/-- what Clone leaves: nil for nil, else a fresh row -/
def Cloned (l : List E) (w : World) (e : Ending) (w' : World) : Prop := ∃ (A : Option Addr) (g cap : Nat), e = .returned (.slice A l.length cap) ∧ Rw w' A g cap l ∧ (A ≠ none → w.heap.size ≤ g) ∧ cap ≤ 9223372036854775807 ∧ Below w.heap.size w w'

set_option maxRecDepth 100000 in
set_option maxHeartbeats 4000000 in
theorem clone_any (A : Option Addr) (g cap : Nat) (l : List E) (w : World) (h : Rw w A g cap l) (hg : g < w.heap.size) (hl : l.length ≤ 60000) :
    Calls Try.prog 44 #[.slice A l.length cap] w (Cloned l w) := by
  have q85 : ∀ (w : World) (a : Option Addr) (n c n' c' : Nat), (binOp .eql 85 (.slice a n c) (.slice none n' c')).run Try.prog w = .ok (.bool a.isNone) w := fun w a n c n' c' => Lib.run_eql_slice_nil w _ _ a n c n' c' und_es
  rcases h with ⟨rfl, rfl, rfl⟩ | ⟨rfl, hr⟩
  · go_enter Try.func44, Try.ntmps44
    go_wp2_with fail
    go_ret
    exact ⟨none, 0, 0, rfl, .inl ⟨rfl, rfl, rfl⟩, fun h => absurd rfl h, by omega, Below.refl _ _⟩
  · have hb0 : Below w.heap.size w (w.alloc (.cells #[] 88)) := (Below.refl _ _).alloc (Nat.le_refl _) _
    have hr1 := hr.keep (Keep.of (Z := fun _ => False) hb0) id
    obtain ⟨g', cap', w', hrun, hrow, hcap, hg', hk⟩ := fresh_run (At.new w 88 #[]) rfl (Src.ofSlice _ und_es ⟨g, 0, none⟩ l.length cap (rows l) (rows_length l) (fun j u hj => by rw [Addr.add_lit, Nat.zero_add]; exact hr1.cell j u hj) (one_rows l)) (by omega)
    have hb1 := hb0.trans (hk.below hb0.size (fun r hr h => by omega))
    have hge : w.heap.size ≤ g' := by
      have := hb0.size
      rcases hg' with h | h <;> omega
    have fin := Lib.hid (show Cloned l w (.returned (.slice (some ⟨g', 0, none⟩) l.length cap')) w' from ⟨_, g', cap', rfl, .inr ⟨rfl, hrow⟩, fun _ => hge, hcap, hb1⟩)
    clear hr hr1 hrow hk hb0 hb1
    go_enter Try.func44, Try.ntmps44
    go_wp2_with (at_builtin; refine Lib.wpList_append_run _ rfl _ _ _ _ rfl _ _ rfl rfl _ _ (hrun _) ?_)
    go_ret
    exact fin.out
end Go.Proofs.Ytmimfhjmhlmibaa
