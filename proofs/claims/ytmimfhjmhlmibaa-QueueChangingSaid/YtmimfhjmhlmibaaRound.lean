/- A region that draws its order, none of whose operations defers: what holds of it inside a fence holds of it inside the round of a range over a function (Code.wpIn at F.inRound l). -/
import Derived.Sort.QuietThIn
import Derived.RangeFuncCalls
namespace Go.Proofs.Ytmimfhjmhlmibaa
open Go

theorem oper_inRound {F : Fence} {n : Nat} {P : Program} {l : Nat} {o : Oper} {a : Act} {w : World} {K K' : Act → World → Prop} {Q : Exit → Act → World → Prop} (hro : F.round = none) (hd : ∀ c, o.op ≠ .defer c) (hK : ∀ a w, K a w → K' a w)
    (h : o.wpIn F n P a w K Q) : o.wpIn (F.inRound l) n P a w K' Q := by
  have h := Oper.wpIn_mono hK h
  obtain ⟨h1, h2⟩ := h
  refine ⟨h1, ?_⟩
  rw [Fence.inRound_round, Oper.semAt_eq _ _ _ hd]
  rw [hro, Oper.semAt_none] at h2
  generalize (execOp a.eval o).run P w = r at *
  cases r with
  | ok x w' => cases x <;> exact h2
  | halt x w' => cases x <;> exact h2

theorem wpOpIn_inRound {F : Fence} {n : Nat} {P : Program} {l : Nat} {ops : Array Oper} {i : Nat} {a : Act} {w : World} {K K' : Act → World → Prop} {Q : Exit → Act → World → Prop} (hro : F.round = none) (hd : ∀ o ∈ ops, ∀ c, o.op ≠ .defer c) (hK : ∀ a w, K a w → K' a w)
    (h : wpOpIn F n P ops Q i K a w) : wpOpIn (F.inRound l) n P ops Q i K' a w := by
  unfold wpOpIn at *
  split
  · rename_i ho; simp only [ho] at h; exact hK _ _ h
  · rename_i o ho
    simp only [ho] at h
    split
    · rename_i hw; simp only [hw, if_true] at h; exact oper_inRound hro (hd o (Array.mem_of_getElem? ho)) hK h
    · rename_i hw; simp only [hw] at h; exact ⟨h.1, hK _ _ h.2⟩

theorem wpAnyIn_inRound {F : Fence} {n : Nat} {P : Program} {l : Nat} {md : Region.Mode} {ops : Array Oper} {Q : Exit → Act → World → Prop} (hro : F.round = none) (hd : ∀ o ∈ ops, ∀ c, o.op ≠ .defer c) : ∀ (fuel : Nat) (listed : Array Bool) (a : Act) (w : World),
    wpAnyIn F n P md ops Q fuel listed a w → wpAnyIn (F.inRound l) n P md ops Q fuel listed a w
  | 0, _, _, _, h => h
  | fuel + 1, _, _, _, h => ⟨h.1, fun i hi => wpOpIn_inRound hro hd (fun a w => wpAnyIn_inRound hro hd fuel _ a w) (h.2 i hi)⟩

/-- no operation of the list defers -/
def noDefer (l : List Oper) : Bool := l.all fun o => match o.op with | .defer _ => false | _ => true
theorem noDefer_spec {l : List Oper} (h : noDefer l = true) : ∀ o ∈ l.toArray, ∀ c, o.op ≠ .defer c := by
  intro o ho c hc
  have := List.all_eq_true.1 h o (by simpa using ho)
  simp [hc] at this

theorem wpIn_region_quiet_round {F : Fence} {n : Nat} {P : Program} {id r : Nat} {Q : Exit → Act → World → Prop} {a : Act} {w : World} {l : List Oper} (hro : F.round = none) (hm : P.follows .mixedOrders = true) (hB : Region.lexB .any l.toArray = true) (hd : noDefer l = true)
    (h : wpQuietIn F n P l.toArray (fun w' => ∃ n, w' = w.drewN n) (fun a' => ∀ w', (∃ n, w' = w.drewN n) → Q .normal a' w') l a) : (Code.region id l.toArray true).wpIn (F.inRound r) n P Q a w := by
  simp only [Region.lexB, Bool.and_eq_true] at hB
  refine wpIn_region_any hm (wpAnyIn_inRound hro (noDefer_spec hd) _ _ _ _ (wpAnyIn_of_quiet (Q := fun a' => ∀ w', (∃ n, w' = w.drewN n) → Q .normal a' w') hro (fun _ w' hw' h => h w' hw') _ _ _ _ ⟨1, rfl⟩ ?_))
  have := wpAnyQIn_lex (F := F) (n := n) (C := fun w' => ∃ n, w' = w.drewN n) (md := .any) hB.1 l 0 (Array.replicate l.length false) a (by simp) (by simpa using hB.2) h
  simpa using this
end Go.Proofs.Ytmimfhjmhlmibaa
