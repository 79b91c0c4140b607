/- New of the queue of texts, as a queue. -/
import Derived.Test.YtmimfhjmhlmibaaTAdd
namespace Go.Proofs.Ytmimfhjmhlmibaa.T
open Go.RowKit Go.MapKept Go.ChangeMaps
set_option linter.unusedVariables false
attribute [local go_sem ↓] Go.wp_at_zero Go.wp_at_succ

/-- a new queue -/
def Fresh (w : World) (e : Ending) (w' : World) : Prop := ∃ q g m1 m2 : Nat, e = .returned (.pointer (some ⟨q, 0, none⟩)) ∧ Qu w' q g m1 m2 [] ∧ (∀ r, ZQ q g m1 m2 r → w.heap.size ≤ r) ∧ Below w.heap.size w w'
theorem new_qu (w : World) : Calls Try.prog 15 #[] w (Fresh w) := by
  refine (new_any w).mono ?_
  rintro e w' ⟨q, m1, m2, rfl, hb, h1, h2, h3, h4, h5, h6, hA, hk, hu⟩
  refine ⟨q, q, m1, m2, rfl, ⟨⟨none, 0, hA, .inl ⟨rfl, rfl, rfl⟩, by omega⟩, hk, hu, h6, hA.lt, Good.nil⟩, ?_, hb⟩
  rintro r (rfl | rfl | rfl | rfl) <;> assumption
end Go.Proofs.Ytmimfhjmhlmibaa.T
