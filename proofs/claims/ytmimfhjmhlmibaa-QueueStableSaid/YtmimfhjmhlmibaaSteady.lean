/- The plain law of QueueStable: an operation on one identifier leaves the order of the others. -/
import Derived.Test.YtmimfhjmhlmibaaDo
import Derived.Test.YtmimfhjmhlmibaaIter
namespace Go.Proofs.Ytmimfhjmhlmibaa
set_option linter.unusedVariables false

/-- the entries but the one of an identifier -/
def off (i : ByteArray) (l : List E) : List E := l.filter (fun e => decide (e.id ≠ i))
theorem off_append (i : ByteArray) (a b : List E) : off i (a ++ b) = off i a ++ off i b := List.filter_append ..
theorem off_skip {i : ByteArray} {e : E} (h : e.id = i) (l : List E) : off i (e :: l) = off i l := by unfold off; rw [List.filter_cons]; simp [h]
theorem off_keep {i : ByteArray} {e : E} (h : e.id ≠ i) (l : List E) : off i (e :: l) = e :: off i l := by unfold off; rw [List.filter_cons]; simp [h]
theorem off_ins {x : E} (l : List E) : off x.id (insP x l) = off x.id l := by
  unfold insP
  rw [off_append, off_skip rfl, ← off_append, List.take_append_drop]
theorem split_at {l : List E} {k : Nat} (hk : k < l.length) : l = l.take k ++ l[k] :: l.drop (k + 1) := by
  rw [List.getElem_cons_drop hk, List.take_append_drop]
theorem off_rem {i : ByteArray} {l : List E} {k : Nat} (hk : k < l.length) (h : l[k].id = i) : off i (remP k l) = off i l := by
  conv => rhs; rw [split_at hk]
  unfold remP
  rw [off_append, off_append, off_skip h]
theorem off_set {i : ByteArray} {l : List E} {k : Nat} (hk : k < l.length) (h : l[k].id = i) (e : E) (he : e.id = i) : off i (l.set k e) = off i l := by
  conv => rhs; rw [split_at hk]
  rw [List.set_eq_take_append_cons_drop, if_pos hk, off_append, off_append, off_skip he, off_skip h]
theorem off_step (k : Int) (x : E) (l : List E) : off x.id (stepP k x l) = off x.id l := by
  unfold stepP
  split
  · unfold addP
    split; rfl
    split; rfl
    split; rfl
    split; rfl
    exact off_ins l
  split
  · unfold remvP
    split
    · rename_i h; exact off_rem h (ix_id h)
    · rfl
  split
  · unfold replP
    split
    · rename_i h; exact off_set h (ix_id h) _ (ix_id h)
    · rfl
  · unfold promP
    split
    · rename_i h
      split
      · rfl
      · have e : ({ l[ix x.id l] with p := x.p } : E).id = x.id := ix_id h
        have := off_ins (x := { l[ix x.id l] with p := x.p }) (remP (ix x.id l) l)
        rw [e] at this
        exact this.trans (off_rem h (ix_id h))
    · rfl
theorem one_id {l : List E} (hg : Good l) {e f : E} (he : e ∈ l) (hf : f ∈ l) (h : e.id = f.id) : e = f := by
  obtain ⟨a, ha, rfl⟩ := List.getElem_of_mem he
  obtain ⟨b, hb, rfl⟩ := List.getElem_of_mem hf
  have := (List.getElem_inj (h₀ := by rw [List.length_map]; exact ha) (h₁ := by rw [List.length_map]; exact hb) hg.ids).1 (by simpa using h)
  subst this
  rfl
/-- an entry that stays keeps its sequence number -/
theorem seq_step (k : Int) (x : E) {l : List E} (hg : Good l) {e f : E} (he : e ∈ l) (hf : f ∈ stepP k x l) (h1 : e.id = x.id) (h2 : f.id = x.id) : e.s = f.s := by
  have same : f ∈ l → e.s = f.s := fun hf => by rw [one_id hg he hf (h1.trans h2.symm)]
  unfold stepP at hf
  split at hf
  · unfold addP at hf
    split at hf; exact same hf
    split at hf; exact same hf
    split at hf; exact same hf
    split at hf; exact same hf
    rename_i hn _
    exact absurd ⟨e, he, h1⟩ hn
  split at hf
  · unfold remvP at hf
    split at hf
    · rename_i h
      exact absurd (h2.trans (ix_id h).symm) ((mem_remP hg h).1 hf).2
    · exact same hf
  split at hf
  · unfold replP at hf
    split at hf
    · rename_i h
      rcases List.mem_or_eq_of_mem_set hf with h3 | rfl
      · exact same h3
      · show e.s = l[ix x.id l].s
        rw [one_id hg he (List.getElem_mem h) (h1.trans (ix_id h).symm)]
    · exact same hf
  · unfold promP at hf
    split at hf
    · rename_i h
      split at hf
      · exact same hf
      · rcases mem_insP.1 hf with rfl | h3
        · show e.s = l[ix x.id l].s
          rw [one_id hg he (List.getElem_mem h) (h1.trans (ix_id h).symm)]
        · exact absurd (h2.trans (ix_id h).symm) ((mem_remP hg h).1 h3).2
    · exact same hf

/-- the reader of the old list stands as far as the reader of the new one -/
def Sync (i : ByteArray) (l l2 : List E) (n k : Nat) : Prop := (off i (l.take n)).length = (off i (l2.take k)).length
theorem take_succ_at {l : List E} {k : Nat} (hk : k < l.length) : l.take (k + 1) = l.take k ++ [l[k]] := by
  rw [List.take_add_one, List.getElem?_eq_getElem hk]; rfl
theorem sync_skip {i : ByteArray} {l l2 : List E} {n k : Nat} (h : Sync i l l2 n k) (hk : k < l2.length) (hi : l2[k].id = i) : Sync i l l2 n (k + 1) := by
  unfold Sync at *
  rw [take_succ_at hk, off_append, off_skip hi]
  simpa [off] using h
theorem sync_old {i : ByteArray} {l l2 : List E} {n k : Nat} (h : Sync i l l2 n k) (hn : n < l.length) (hi : l[n].id = i) : Sync i l l2 (n + 1) k := by
  unfold Sync at *
  rw [take_succ_at hn, off_append, off_skip hi]
  simpa [off] using h
theorem sync_step {i : ByteArray} {l l2 : List E} {n k : Nat} (he : off i l = off i l2) (h : Sync i l l2 n k) (hk : k < l2.length) (hi : l2[k].id ≠ i) (hn : n ≤ l.length) (hx : ∀ hn : n < l.length, l[n].id ≠ i) :
    ∃ hn : n < l.length, l[n].id = l2[k].id ∧ Sync i l l2 (n + 1) (k + 1) := by
  have e2 : off i l2 = off i (l2.take k) ++ l2[k] :: off i (l2.drop (k + 1)) := by
    conv => lhs; rw [split_at hk]
    rw [off_append, off_keep hi]
  have g2 : (off i l)[(off i (l2.take k)).length]? = some l2[k] := by
    rw [he, e2, List.getElem?_append_right (Nat.le_refl _), Nat.sub_self]; rfl
  rw [← show (off i (l.take n)).length = (off i (l2.take k)).length from h] at g2
  by_cases hn' : n < l.length
  · have e1 : off i l = off i (l.take n) ++ l[n] :: off i (l.drop (n + 1)) := by
      conv => lhs; rw [split_at hn']
      rw [off_append, off_keep (hx hn')]
    rw [e1, List.getElem?_append_right (Nat.le_refl _), Nat.sub_self] at g2
    have g3 : l[n] = l2[k] := by simpa using g2
    refine ⟨hn', by rw [g3], ?_⟩
    unfold Sync at *
    rw [take_succ_at hn', take_succ_at hk, off_append, off_append, off_keep (hx hn'), off_keep hi, List.length_append, List.length_append, h]
    rfl
  · have : n = l.length := by omega
    subst this
    rw [List.take_length, List.getElem?_eq_none (Nat.le_refl _)] at g2
    cases g2
end Go.Proofs.Ytmimfhjmhlmibaa
