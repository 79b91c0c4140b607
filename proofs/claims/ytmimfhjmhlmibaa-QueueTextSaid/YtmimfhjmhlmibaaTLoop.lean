/- Ranges over the queue of texts: what a caller wants in the body. -/
import Derived.Test.YtmimfhjmhlmibaaTIter
namespace Go.Proofs.Ytmimfhjmhlmibaa.T
open Go.RowKit Go.MapKept Go.ChangeMaps Go.Shelf
set_option linter.unusedVariables false

/-- a list of pairs that has come so far is a part of the queue's -/
theorem pre_next {pre : List (ByteArray × ByteArray)} {l : List E} (h : pre <+: pairs l) (hn : pre.length < l.length) {x : ByteArray × ByteArray} (h1 : x.1 = l[pre.length].id) (h2 : x.2 = bang l[pre.length].id) : pre ++ [x] <+: pairs l := by
  obtain ⟨t, ht⟩ := h
  have hl : (pairs l).length = l.length := by unfold pairs; simp
  have hg : (pairs l)[pre.length]? = some x := by
    unfold pairs
    rw [List.getElem?_map, List.getElem?_eq_getElem hn]
    obtain ⟨a, b⟩ := x
    simp at h1 h2
    simp [h1, h2]
  rw [← ht, List.getElem?_append_right (Nat.le_refl _), Nat.sub_self] at hg
  cases t with
  | nil => simp at hg
  | cons y t =>
    simp at hg
    subst hg
    exact ⟨t, by rw [← ht]; simp⟩
theorem pre_get {pre : List (ByteArray × ByteArray)} {l : List E} {x : ByteArray × ByteArray} (h : pre ++ [x] <+: pairs l) : ∃ hn : pre.length < l.length, x.1 = l[pre.length].id ∧ x.2 = bang l[pre.length].id := by
  have hl : (pairs l).length = l.length := by unfold pairs; simp
  have h1 := h.length_le
  rw [List.length_append, hl] at h1
  simp at h1
  refine ⟨by omega, ?_⟩
  have hg : (pairs l)[pre.length]? = some x := by
    obtain ⟨t, ht⟩ := h
    rw [← ht, List.append_assoc, List.getElem?_append_right (Nat.le_refl _), Nat.sub_self]
    rfl
  unfold pairs at hg
  rw [List.getElem?_map, List.getElem?_eq_getElem (by omega)] at hg
  simp at hg
  rw [← hg]
  exact ⟨rfl, rfl⟩
theorem pre_len {pre : List (ByteArray × ByteArray)} {l : List E} (h : pre <+: pairs l) : pre.length ≤ l.length := by
  have := h.length_le
  unfold pairs at this
  simpa using this
theorem pairs_length (l : List E) : (pairs l).length = l.length := by unfold pairs; simp
end Go.Proofs.Ytmimfhjmhlmibaa.T
