/- The plain law of QueueWhere: a reader that skips the entries that are not odd. -/
import Derived.Test.YtmimfhjmhlmibaaLoop
namespace Go.Proofs.Ytmimfhjmhlmibaa
set_option linter.unusedVariables false

/-- the reader of the list stands behind as many odd entries as have come -/
def SyncO (l : List E) (n k : Nat) : Prop := ((l.take n).filter oddP).length = k
theorem synco_even {l : List E} {n k : Nat} (h : SyncO l n k) (hn : n < l.length) (he : oddP l[n] = false) : SyncO l (n + 1) k := by
  unfold SyncO at *
  rw [filter_succ oddP l n hn, if_neg (by rw [he]; simp), List.append_nil]
  exact h
theorem synco_odd {l : List E} {n k : Nat} (h : SyncO l n k) (hn : n < l.length) (he : oddP l[n] = true) : SyncO l (n + 1) (k + 1) := by
  unfold SyncO at *
  rw [filter_succ oddP l n hn, if_pos he, List.length_append, h]
  rfl
theorem filter_split (l : List E) (n : Nat) : l.filter oddP = (l.take n).filter oddP ++ (l.drop n).filter oddP := by
  rw [← List.filter_append, List.take_append_drop]
theorem synco_step {l : List E} {pre : List (ByteArray × Int)} {y : ByteArray × Int} {n : Nat} (h : SyncO l n pre.length) (hn : n ≤ l.length) (hx : ∀ hn : n < l.length, oddP l[n] = true) (hp : pre ++ [y] <+: pairs (l.filter oddP)) :
    ∃ hn : n < l.length, l[n].id = y.1 ∧ l[n].v = y.2 ∧ SyncO l (n + 1) (pre ++ [y]).length := by
  obtain ⟨hk, h1, h2⟩ := pre_get hp
  have hs := filter_split l n
  by_cases hlt : n < l.length
  · have hd : (l.drop n).filter oddP = l[n] :: (l.drop (n + 1)).filter oddP := by
      rw [← List.getElem_cons_drop hlt, List.filter_cons, if_pos (hx hlt)]
    rw [hd] at hs
    have hg : (l.filter oddP)[pre.length]? = some l[n] := by
      rw [hs, List.getElem?_append_right (Nat.le_of_eq h), show ((l.take n).filter oddP).length = pre.length from h, Nat.sub_self]
      rfl
    rw [List.getElem?_eq_getElem hk] at hg
    have hg := Option.some.inj hg
    rw [hg] at h1 h2
    exact ⟨hlt, h1.symm, h2.symm, by rw [List.length_append]; exact synco_odd h hlt (hx hlt)⟩
  · have : n = l.length := by omega
    subst this
    rw [List.drop_length, List.filter_nil, List.append_nil] at hs
    rw [hs] at hk
    unfold SyncO at h
    omega
theorem synco_end {l : List E} {n : Nat} (h : SyncO l n (l.filter oddP).length) (k : Nat) (h1 : n ≤ k) (h2 : k < l.length) : oddP l[k] = false := by
  have hs := congrArg List.length (filter_split l n)
  rw [List.length_append, show ((l.take n).filter oddP).length = _ from h] at hs
  have h0 : ((l.drop n).filter oddP) = [] := List.eq_nil_of_length_eq_zero (by omega)
  have hm : l[k] ∈ l.drop n := by
    rw [List.mem_iff_getElem]
    exact ⟨k - n, by rw [List.length_drop]; omega, by simp [show n + (k - n) = k by omega]⟩
  by_cases ho : oddP l[k] = true
  · have := List.mem_filter.2 ⟨hm, ho⟩
    rw [h0] at this
    cases this
  · simpa using ho
end Go.Proofs.Ytmimfhjmhlmibaa
