/- The queue of texts and the reference together. -/
import Derived.Test.YtmimfhjmhlmibaaTKnown
namespace Go.Proofs.Ytmimfhjmhlmibaa.T
open Go.RowKit Go.MapKept Go.ChangeMaps
set_option linter.unusedVariables false
attribute [local go_sem ↓] Go.wp_at_zero Go.wp_at_succ

/-- a queue and a list of the reference's that hold the same items, in memory apart -/
structure Both (w : World) (q g m1 m2 : Nat) (v : Value) (l : List E) : Prop where
  qu : Qu w q g m1 m2 l
  rl : RL w v l
  off : Off (ZQ q g m1 m2) v
/-- what an operation on both leaves -/
def Did (q g m1 m2 : Nat) (v : Value) (l' : List E) (w : World) (e : Ending) (w' : World) : Prop :=
  ∃ (v' : Value) (g' : Nat), e = .returned (.tuple #[v', .bool true]) ∧ Both w' q g' m1 m2 v' l' ∧ (g' = g ∨ w.heap.size ≤ g') ∧ (∀ b, v'.ownBlock = some b → v.ownBlock = some b ∨ w.heap.size ≤ b) ∧ Keep (ZQ q g m1 m2) w w'
/-- the reference's turn first, then the queue's -/
theorem did_of {w w1 w2 : World} {q g m1 m2 : Nat} {v v' : Value} {l l' : List E} (h : Both w q g m1 m2 v l) (hr : RL w1 v' l') (hv : ∀ b, v'.ownBlock = some b → v.ownBlock = some b ∨ w.heap.size ≤ b) (hb : Below w.heap.size w w1)
    (hq : ∃ g', Qu w2 q g' m1 m2 l' ∧ (g' = g ∨ w1.heap.size ≤ g') ∧ Keep (ZQ q g m1 m2) w1 w2) : Did q g m1 m2 v l' w (.returned (.tuple #[v', .bool true])) w2 := by
  obtain ⟨g', hq, hg', hk⟩ := hq
  have hoff : Off (ZQ q g m1 m2) v' := fun b hb' hz => by
    rcases hv b hb' with h1 | h1
    · exact h.off b h1 hz
    · have := h.qu.zlt b hz; omega
  refine ⟨v', g', rfl, ⟨hq, hr.keep hk hoff, ?_⟩, ?_, hv, (Keep.of hb).trans hk⟩
  · intro b hb' hz
    have hlt := hr.lt b hb'
    rcases hz with rfl | rfl | rfl | rfl
    · exact hoff _ hb' (.inl rfl)
    · rcases hg' with rfl | h1
      · exact hoff _ hb' (.inr (.inl rfl))
      · omega
    · exact hoff _ hb' (.inr (.inr (.inl rfl)))
    · exact hoff _ hb' (.inr (.inr (.inr rfl)))
  · rcases hg' with h1 | h1
    · exact .inl h1
    · exact .inr (Nat.le_trans hb.size h1)

end Go.Proofs.Ytmimfhjmhlmibaa.T
