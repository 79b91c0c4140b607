/- A queue of texts of the call's own. -/
import Derived.Test.YtmimfhjmhlmibaaTGet
namespace Go.Proofs.Ytmimfhjmhlmibaa.T
open Go.RowKit Go.MapKept Go.ChangeMaps
set_option linter.unusedVariables false
attribute [local go_sem ↓] Go.wp_at_zero Go.wp_at_succ

/-- a queue of the call's own: all its blocks lie at or beyond B, and nothing below B has turned -/
def Own (B : Nat) (w0 w : World) (q : Nat) (l : List E) : Prop := ∃ g m1 m2, Qu w q g m1 m2 l ∧ (∀ r, ZQ q g m1 m2 r → B ≤ r) ∧ Below B w0 w ∧ B ≤ w.heap.size
theorem Own.below {B : Nat} {w0 w w' : World} {q : Nat} {l : List E} (h : Own B w0 w q l) (hb : Below w.heap.size w w') : Own B w0 w' q l := by
  obtain ⟨g, m1, m2, hq, hz, hB, hs⟩ := h
  exact ⟨g, m1, m2, hq.below hb, hz, hB.trans (hb.mono hs), Nat.le_trans hs hb.size⟩
theorem zq_step {q g g' m1 m2 B N : Nat} (hz : ∀ r, ZQ q g m1 m2 r → B ≤ r) (hN : B ≤ N) (hg : g' = g ∨ N ≤ g') : ∀ r, ZQ q g' m1 m2 r → B ≤ r := by
  rintro r (rfl | rfl | rfl | rfl)
  · exact hz _ (.inl rfl)
  · rcases hg with rfl | h
    · exact hz _ (.inr (.inl rfl))
    · omega
  · exact hz _ (.inr (.inr (.inl rfl)))
  · exact hz _ (.inr (.inr (.inr rfl)))
theorem new_own (w : World) : Calls Try.prog 15 #[] w fun e w' => ∃ q, e = .returned (.pointer (some ⟨q, 0, none⟩)) ∧ Own w.heap.size w w' q [] := by
  refine (new_qu w).mono ?_
  rintro e w' ⟨q, g, m1, m2, rfl, hq, hz, hb⟩
  exact ⟨q, rfl, g, m1, m2, hq, hz, hb, hb.size⟩

end Go.Proofs.Ytmimfhjmhlmibaa.T
