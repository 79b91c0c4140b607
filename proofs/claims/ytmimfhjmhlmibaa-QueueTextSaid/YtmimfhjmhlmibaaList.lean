/- Plain lists: inserting, removing, finding, and what stays true of a queue's list. -/
import Derived.Test.YtmimfhjmhlmibaaPlain
namespace Go.Proofs.Ytmimfhjmhlmibaa
set_option linter.unusedVariables false

def insP (x : E) (l : List E) : List E := l.take (lb x.p x.s l) ++ x :: l.drop (lb x.p x.s l)
def remP (i : Nat) (l : List E) : List E := l.take i ++ l.drop (i + 1)
/-- a queue's list: sorted, no identifier twice, no sequence number twice -/
structure Good (l : List E) : Prop where
  sorted : Sorted l
  ids : (l.map E.id).Nodup
  seqs : (l.map E.s).Nodup
theorem Good.nil : Good [] := ⟨List.Pairwise.nil, List.nodup_nil, List.nodup_nil⟩

theorem lb_before {p s : Int} {l : List E} (k : Nat) (hk : k < lb p s l) : eb p s (l[k]'(Nat.lt_of_lt_of_le hk (lb_le p s l))) = true := by
  have h1 : l[k]'(Nat.lt_of_lt_of_le hk (lb_le p s l)) = (l.takeWhile (eb p s))[k]'hk := by
    have e : l.takeWhile (eb p s) <+: l := List.takeWhile_prefix _
    exact (e.getElem hk).symm
  rw [h1]
  exact List.all_takeWhile (p := eb p s) (l := l) |> fun h => (List.all_eq_true.1 h) _ (List.getElem_mem hk)
theorem lb_at {p s : Int} {l : List E} (h : lb p s l < l.length) : eb p s l[lb p s l] = false := by
  induction l with
  | nil => simp at h
  | cons e l ih =>
    unfold lb at h ⊢
    by_cases he : eb p s e = true
    · have e1 : (e :: l).takeWhile (eb p s) = e :: l.takeWhile (eb p s) := by rw [List.takeWhile_cons, he]; rfl
      have h2 : lb p s l < l.length := by rw [e1] at h; simpa [lb] using h
      have := ih h2
      simp only [e1, List.length_cons, List.getElem_cons_succ]
      exact this
    · have he' : eb p s e = false := by simpa using he
      have e1 : (e :: l).takeWhile (eb p s) = [] := by rw [List.takeWhile_cons, he']; rfl
      simp only [e1, List.length_nil, List.getElem_cons_zero]
      exact he'
theorem lb_after {p s : Int} {l : List E} (hs : Sorted l) (k : Nat) (hk : k < l.length) (h : lb p s l ≤ k) : eb p s l[k] = false :=
  eb_up hs (lb p s l) k hk h (lb_at (by omega))
theorem mem_take_lb {p s : Int} {l : List E} {a : E} (h : a ∈ l.take (lb p s l)) : eb p s a = true := by
  obtain ⟨k, hk, rfl⟩ := List.getElem_of_mem h
  rw [List.getElem_take]
  exact lb_before k (by rw [List.length_take] at hk; omega)
theorem mem_drop_lb {p s : Int} {l : List E} (hs : Sorted l) {a : E} (h : a ∈ l.drop (lb p s l)) : eb p s a = false := by
  obtain ⟨k, hk, rfl⟩ := List.getElem_of_mem h
  rw [List.getElem_drop]
  exact lb_after hs _ (by rw [List.length_drop] at hk; omega) (by omega)
/-- the place of an item's own key is its index -/
theorem lb_own {l : List E} (hs : Sorted l) (i : Nat) (hi : i < l.length) : lb l[i].p l[i].s l = i := by
  refine lb_of i (Nat.le_of_lt hi) (fun k hk hki => sorted_get hs k i hi hki) (fun k hk hik => ?_)
  unfold eb
  rw [kbef_false]
  by_cases e : i = k
  · subst e; omega
  · have := kbef_iff.1 (sorted_get hs i k hk (by omega)); omega

theorem insP_perm (x : E) (l : List E) : (insP x l).Perm (x :: l) := by
  unfold insP
  refine List.perm_middle.trans ?_
  rw [List.take_append_drop]
theorem length_insP (x : E) (l : List E) : (insP x l).length = l.length + 1 := by
  have := (insP_perm x l).length_eq; simpa using this
theorem remP_sub (i : Nat) (l : List E) : (remP i l).Sublist l := by
  have e : l = l.take i ++ l.drop i := (List.take_append_drop i l).symm
  unfold remP
  conv => rhs; rw [e]
  refine List.Sublist.append (List.Sublist.refl _) ?_
  rw [← List.drop_drop]
  exact List.drop_sublist _ _
theorem length_remP {i : Nat} {l : List E} (hi : i < l.length) : (remP i l).length = l.length - 1 := by
  unfold remP; simp; omega
theorem remP_perm {i : Nat} {l : List E} (hi : i < l.length) : l.Perm (l[i] :: remP i l) := by
  have e : l = l.take i ++ l[i] :: l.drop (i + 1) := by
    rw [← List.drop_eq_getElem_cons hi, List.take_append_drop]
  conv => lhs; rw [e]
  exact List.perm_middle
theorem Good.rem {l : List E} (h : Good l) (i : Nat) : Good (remP i l) :=
  ⟨h.sorted.sublist (remP_sub i l), h.ids.sublist ((remP_sub i l).map _), h.seqs.sublist ((remP_sub i l).map _)⟩
theorem Good.ins {l : List E} (h : Good l) (x : E) (h1 : ∀ e ∈ l, e.id ≠ x.id) (h2 : ∀ e ∈ l, e.s ≠ x.s) : Good (insP x l) := by
  refine ⟨?_, ?_, ?_⟩
  · unfold insP
    refine List.pairwise_append.2 ⟨h.sorted.sublist (List.take_sublist _ _), List.pairwise_cons.2 ⟨?_, h.sorted.sublist (List.drop_sublist _ _)⟩, ?_⟩
    · intro a ha
      have h3 := mem_drop_lb h.sorted ha
      have h4 := h2 a (List.mem_of_mem_drop ha)
      unfold eb at h3
      rw [kbef_false] at h3
      rw [kbef_iff]
      omega
    · intro a ha b hb
      have h3 := mem_take_lb ha
      rcases List.mem_cons.1 hb with rfl | hb
      · exact h3
      · have h4 := List.mem_of_mem_take ha
        obtain ⟨i, hi, rfl⟩ := List.getElem_of_mem ha
        obtain ⟨j, hj, rfl⟩ := List.getElem_of_mem hb
        rw [List.getElem_take, List.getElem_drop]
        rw [List.length_take] at hi
        rw [List.length_drop] at hj
        exact sorted_get h.sorted _ _ (by omega) (by omega)
  · refine ((insP_perm x l).map E.id).nodup_iff.2 ?_
    simp only [List.map_cons, List.nodup_cons]
    exact ⟨fun hm => by obtain ⟨e, he, e1⟩ := List.mem_map.1 hm; exact h1 e he e1, h.ids⟩
  · refine ((insP_perm x l).map E.s).nodup_iff.2 ?_
    simp only [List.map_cons, List.nodup_cons]
    exact ⟨fun hm => by obtain ⟨e, he, e1⟩ := List.mem_map.1 hm; exact h2 e he e1, h.seqs⟩
theorem id_inj {l : List E} (h : Good l) {i j : Nat} (hi : i < l.length) (hj : j < l.length) (e : l[i].id = l[j].id) : i = j := by
  have h1 : i < (l.map E.id).length := by simpa using hi
  exact (List.getElem?_inj h1 h.ids).1 (by simp [hi, hj, e])
theorem rem_ids {l : List E} (h : Good l) {i : Nat} (hi : i < l.length) : ∀ e ∈ remP i l, e.id ≠ l[i].id := by
  have := ((remP_perm hi).map E.id).nodup_iff.1 h.ids
  simp only [List.map_cons, List.nodup_cons] at this
  exact fun e he e1 => this.1 (List.mem_map.2 ⟨e, he, e1⟩)
theorem rem_seqs {l : List E} (h : Good l) {i : Nat} (hi : i < l.length) : ∀ e ∈ remP i l, e.s ≠ l[i].s := by
  have := ((remP_perm hi).map E.s).nodup_iff.1 h.seqs
  simp only [List.map_cons, List.nodup_cons] at this
  exact fun e he e1 => this.1 (List.mem_map.2 ⟨e, he, e1⟩)
end Go.Proofs.Ytmimfhjmhlmibaa
