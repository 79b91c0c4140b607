/- QueueText: what its operations leave, and the memory between two of them. -/
import Derived.Test.YtmimfhjmhlmibaaTDo
import Derived.Test.YtmimfhjmhlmibaaBuild
import Derived.Test.YtmimfhjmhlmibaaKeys
namespace Go.Proofs.Ytmimfhjmhlmibaa.T
open Go.RowKit Go.MapKept Go.ChangeMaps
set_option linter.unusedVariables false

/-- one operation of QueueText -/
noncomputable def stepT (k : Int) (x : E) (l : List E) : List E := if k % 4 = 0 then (addP x l).1 else l
/-- what the first n operations leave -/
noncomputable def foldT (n : Nat) (os : List (Int × E)) (l : List E) : List E := (os.take n).foldl (fun l o => stepT o.1 o.2 l) l
theorem foldT_zero (os : List (Int × E)) (l : List E) : foldT 0 os l = l := by unfold foldT; simp
theorem foldT_succ (os : List (Int × E)) (l : List E) (k : Nat) (h : k < os.length) : foldT (k + 1) os l = stepT os[k].1 os[k].2 (foldT k os l) := by
  unfold foldT
  rw [List.take_succ_eq_append_getElem h, List.foldl_append]
  rfl
theorem foldT_all (os : List (Int × E)) (l : List E) (n : Nat) (h : os.length ≤ n) : foldT n os l = foldT os.length os l := by
  unfold foldT
  rw [List.take_of_length_le h, List.take_of_length_le (Nat.le_refl _)]
theorem length_stepT (k : Int) (x : E) (l : List E) : (stepT k x l).length ≤ l.length + 1 := by
  unfold stepT
  split
  · exact length_addP x l
  · exact Nat.le_succ _
theorem length_foldT (os : List (Int × E)) (l : List E) (k : Nat) : (foldT k os l).length ≤ l.length + k := by
  induction k with
  | zero => rw [foldT_zero]; omega
  | succ k ih =>
    by_cases h : k < os.length
    · rw [foldT_succ os l k h]
      have := length_stepT os[k].1 os[k].2 (foldT k os l)
      omega
    · have e : foldT (k + 1) os l = foldT k os l := by rw [foldT_all os l (k + 1) (by omega), foldT_all os l k (by omega)]
      rw [e]; omega
/-- all names are short -/
def Short (l : List E) : Prop := ∀ e ∈ l, e.id.size ≤ 64
theorem short_stepT (k : Int) (x : E) {l : List E} (h : Short l) : Short (stepT k x l) := by
  unfold stepT
  split
  · unfold addP
    split; exact h
    split; exact h
    split; exact h
    split; exact h
    rename_i h1 _ _ _
    intro e he
    rcases mem_insP.1 he with rfl | he
    · omega
    · exact h e he
  · exact h
theorem short_foldT (os : List (Int × E)) (k : Nat) : Short (foldT k os []) := by
  induction k with
  | zero => rw [foldT_zero]; exact fun e he => by cases he
  | succ k ih =>
    by_cases h : k < os.length
    · rw [foldT_succ os [] k h]
      exact short_stepT _ _ ih
    · have e : foldT (k + 1) os [] = foldT k os [] := by rw [foldT_all os [] (k + 1) (by omega), foldT_all os [] k (by omega)]
      rw [e]; exact ih

/-- the memory between two operations: the queue, the reference in a cell of its own -/
def TI (B : Nat) (w0 : World) (cL q : Nat) (v : Value) (l : List E) (w : World) : Prop := ∃ g m1 m2, Both w q g m1 m2 v l ∧ (∀ r, ZQ q g m1 m2 r → B ≤ r ∧ r ≠ cL) ∧ (∀ b, v.ownBlock = some b → B ≤ b ∧ b ≠ cL) ∧ Below B w0 w ∧ At w cL 33 #[v]
theorem TI.below {B : Nat} {w0 w w' : World} {cL q : Nat} {v : Value} {l : List E} (h : TI B w0 cL q v l w) (hB : B ≤ w.heap.size) (hb : Below w.heap.size w w') : TI B w0 cL q v l w' := by
  obtain ⟨g, m1, m2, hbb, hz, hv, h0, hc⟩ := h
  exact ⟨g, m1, m2, ⟨hbb.qu.below hb, hbb.rl.below hb, hbb.off⟩, hz, hv, h0.trans (hb.mono hB), hc.below hb hc.lt⟩
theorem ti_step {B : Nat} {w0 w1 w2 w3 : World} {cL q g m1 m2 : Nat} {v v' : Value} {l l' : List E} (hbb : Both w1 q g m1 m2 v l) (hz : ∀ r, ZQ q g m1 m2 r → B ≤ r ∧ r ≠ cL) (hvz : ∀ b, v.ownBlock = some b → B ≤ b ∧ b ≠ cL) (hB : Below B w0 w1) (hBs : B ≤ w1.heap.size) (hBc : B ≤ cL)
    (hc : At w1 cL 33 #[v]) (hr : RL w2 v' l') (hv : ∀ b, v'.ownBlock = some b → v.ownBlock = some b ∨ w1.heap.size ≤ b) (hb : Below w1.heap.size w1 w2) (hq : ∃ g', Qu w3 q g' m1 m2 l' ∧ (g' = g ∨ w2.heap.size ≤ g') ∧ Keep (ZQ q g m1 m2) w2 w3) :
    At w3 cL 33 #[v] ∧ Keep (ZQ q g m1 m2) w1 w3 ∧ TI B w0 cL q v' l' (w3.setCell ⟨cL, 0, none⟩ v') := by
  obtain ⟨v2, g', he, hb3, hg', hv', hk⟩ := did_of hbb hr hv hb hq
  obtain rfl : v' = v2 := by simpa using he
  have hlt := hc.lt
  have hc3 := hc.keep hk (fun z => (hz _ z).2 rfl)
  have hset : Keep (· = cL) w3 (w3.setCell ⟨cL, 0, none⟩ v') := Keep.setCell (Z := (· = cL)) (p := ⟨cL, 0, none⟩) rfl v' w3
  have hz' : ∀ r, ZQ q g' m1 m2 r → B ≤ r ∧ r ≠ cL := fun r z => by
    rcases z with z | z | z | z
    · exact hz r (.inl z)
    · subst z
      rcases hg' with rfl | hg'
      · exact hz _ (.inr (.inl rfl))
      · omega
    · exact hz r (.inr (.inr (.inl z)))
    · exact hz r (.inr (.inr (.inr z)))
  have hv2 : ∀ b, v'.ownBlock = some b → B ≤ b ∧ b ≠ cL := fun b h => by
    rcases hv' b h with h | h
    · exact hvz b h
    · omega
  have h16 := hc3.set 0 v'
  simp at h16
  refine ⟨hc3, hk, g', m1, m2, ⟨hb3.qu.keep hset ((hz' q (.inl rfl)).2) ((hz' g' (.inr (.inl rfl))).2) ((hz' m1 (.inr (.inr (.inl rfl)))).2) ((hz' m2 (.inr (.inr (.inr rfl)))).2), hb3.rl.keep hset (fun b h => (hv2 b h).2), hb3.off⟩, hz', hv2, ?_, h16⟩
  exact (hB.trans (hk.below hBs (fun r hr z => by have := (hz r z).1; omega))).trans (hset.below (Nat.le_trans hBs hk.size) (fun r hr e => by omega))
end Go.Proofs.Ytmimfhjmhlmibaa.T
