/- What the two maps hold behind an insertion and a removal. -/
import Derived.Test.YtmimfhjmhlmibaaQu
namespace Go.Proofs.Ytmimfhjmhlmibaa
open Go.RowKit Go.MapKept
set_option linter.unusedVariables false

theorem usedOf_some {l : List E} {i : Int} {x : E} (h : l.find? (fun e => decide (e.s = i)) = some x) : usedOf l (.int .i64 i) = some (.bool true) := by
  unfold usedOf
  simp [h]
theorem keysOf_iff {l : List E} (hg : Good l) (v u : Value) : keysOf l v = some u ↔ ∃ e ∈ l, Value.string e.id = v ∧ u = .agg #[.int .i64 e.p, .int .i64 e.s] := by
  unfold keysOf
  constructor
  · intro h
    simp only [Option.map_eq_some_iff] at h
    obtain ⟨e, h1, h2⟩ := h
    have h3 := List.find?_some h1
    exact ⟨e, List.mem_of_find?_eq_some h1, by simpa using h3, h2.symm⟩
  · rintro ⟨e, he, rfl, rfl⟩
    obtain ⟨k, hk, rfl⟩ := List.getElem_of_mem he
    exact keysOf_some (find_present hg k hk)
theorem usedOf_iff {l : List E} (hg : Good l) (v u : Value) : usedOf l v = some u ↔ ∃ e ∈ l, Value.int .i64 e.s = v ∧ u = .bool true := by
  unfold usedOf
  constructor
  · intro h
    simp only [Option.map_eq_some_iff] at h
    obtain ⟨e, h1, h2⟩ := h
    have h3 := List.find?_some h1
    exact ⟨e, List.mem_of_find?_eq_some h1, by simpa using h3, h2.symm⟩
  · rintro ⟨e, he, rfl, rfl⟩
    obtain ⟨k, hk, rfl⟩ := List.getElem_of_mem he
    exact usedOf_some (find_seq hg k hk)
theorem mem_insP {x e : E} {l : List E} : e ∈ insP x l ↔ e = x ∨ e ∈ l := by
  rw [(insP_perm x l).mem_iff, List.mem_cons]
theorem mem_remP {l : List E} (hg : Good l) {i : Nat} (hi : i < l.length) {e : E} : e ∈ remP i l ↔ e ∈ l ∧ e.id ≠ l[i].id := by
  constructor
  · exact fun h => ⟨(remP_sub i l).mem h, rem_ids hg hi e h⟩
  · rintro ⟨h1, h2⟩
    rcases List.mem_cons.1 ((remP_perm hi).mem_iff.1 h1) with rfl | h
    · exact absurd rfl h2
    · exact h
theorem mem_remP_s {l : List E} (hg : Good l) {i : Nat} (hi : i < l.length) {e : E} : e ∈ remP i l ↔ e ∈ l ∧ e.s ≠ l[i].s := by
  constructor
  · exact fun h => ⟨(remP_sub i l).mem h, rem_seqs hg hi e h⟩
  · rintro ⟨h1, h2⟩
    rcases List.mem_cons.1 ((remP_perm hi).mem_iff.1 h1) with rfl | h
    · exact absurd rfl h2
    · exact h
theorem keysOf_ins {l : List E} (hg : Good l) (x : E) (h1 : ∀ e ∈ l, e.id ≠ x.id) (h2 : ∀ e ∈ l, e.s ≠ x.s) : put (keysOf l) (.string x.id) (.agg #[.int .i64 x.p, .int .i64 x.s]) = keysOf (insP x l) := by
  funext v
  apply Option.ext
  intro u
  rw [keysOf_iff (hg.ins x h1 h2)]
  unfold put
  by_cases hv : v = .string x.id
  · subst hv
    rw [if_pos rfl]
    constructor
    · intro h; simp at h; exact ⟨x, mem_insP.2 (.inl rfl), rfl, h.symm⟩
    · rintro ⟨e, he, h3, rfl⟩
      simp at h3
      rcases mem_insP.1 he with rfl | he
      · rfl
      · exact absurd h3 (h1 e he)
  · rw [if_neg hv, keysOf_iff hg]
    constructor
    · rintro ⟨e, he, r⟩; exact ⟨e, mem_insP.2 (.inr he), r⟩
    · rintro ⟨e, he, r, r2⟩
      rcases mem_insP.1 he with rfl | he
      · exact absurd r.symm hv
      · exact ⟨e, he, r, r2⟩
theorem usedOf_ins {l : List E} (hg : Good l) (x : E) (h1 : ∀ e ∈ l, e.id ≠ x.id) (h2 : ∀ e ∈ l, e.s ≠ x.s) : put (usedOf l) (.int .i64 x.s) (.bool true) = usedOf (insP x l) := by
  funext v
  apply Option.ext
  intro u
  rw [usedOf_iff (hg.ins x h1 h2)]
  unfold put
  by_cases hv : v = .int .i64 x.s
  · subst hv
    rw [if_pos rfl]
    constructor
    · intro h; simp at h; exact ⟨x, mem_insP.2 (.inl rfl), rfl, h.symm⟩
    · rintro ⟨e, he, h3, rfl⟩; rfl
  · rw [if_neg hv, usedOf_iff hg]
    constructor
    · rintro ⟨e, he, r⟩; exact ⟨e, mem_insP.2 (.inr he), r⟩
    · rintro ⟨e, he, r, r2⟩
      rcases mem_insP.1 he with rfl | he
      · exact absurd r.symm hv
      · exact ⟨e, he, r, r2⟩
theorem keysOf_rem {l : List E} (hg : Good l) {i : Nat} (hi : i < l.length) : del (keysOf l) (.string l[i].id) = keysOf (remP i l) := by
  funext v
  apply Option.ext
  intro u
  rw [keysOf_iff (hg.rem i)]
  unfold del
  by_cases hv : v = .string l[i].id
  · subst hv
    rw [if_pos rfl]
    constructor
    · intro h; simp at h
    · rintro ⟨e, he, h3, rfl⟩
      simp at h3
      exact absurd h3 ((mem_remP hg hi).1 he).2
  · rw [if_neg hv, keysOf_iff hg]
    constructor
    · rintro ⟨e, he, r, r2⟩; exact ⟨e, (mem_remP hg hi).2 ⟨he, fun e1 => hv (by rw [← r, e1])⟩, r, r2⟩
    · rintro ⟨e, he, r⟩; exact ⟨e, ((mem_remP hg hi).1 he).1, r⟩
theorem usedOf_rem {l : List E} (hg : Good l) {i : Nat} (hi : i < l.length) : del (usedOf l) (.int .i64 l[i].s) = usedOf (remP i l) := by
  funext v
  apply Option.ext
  intro u
  rw [usedOf_iff (hg.rem i)]
  unfold del
  by_cases hv : v = .int .i64 l[i].s
  · subst hv
    rw [if_pos rfl]
    constructor
    · intro h; simp at h
    · rintro ⟨e, he, h3, rfl⟩
      simp at h3
      exact absurd h3 ((mem_remP_s hg hi).1 he).2
  · rw [if_neg hv, usedOf_iff hg]
    constructor
    · rintro ⟨e, he, r, r2⟩; exact ⟨e, (mem_remP_s hg hi).2 ⟨he, fun e1 => hv (by rw [← r, e1])⟩, r, r2⟩
    · rintro ⟨e, he, r⟩; exact ⟨e, ((mem_remP_s hg hi).1 he).1, r⟩
end Go.Proofs.Ytmimfhjmhlmibaa
