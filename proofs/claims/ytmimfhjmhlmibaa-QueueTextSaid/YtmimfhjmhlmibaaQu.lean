/- The queue's memory as one predicate. -/
import Derived.Test.YtmimfhjmhlmibaaInsAny
import Derived.Test.YtmimfhjmhlmibaaList
namespace Go.Proofs.Ytmimfhjmhlmibaa
open Go.RowKit Go.MapKept
set_option linter.unusedVariables false

/-- block q is a queue whose row is block g (or none yet), whose maps are the blocks m1 and m2, and which holds l -/
structure Qu (w : World) (q g m1 m2 : Nat) (l : List E) : Prop where
  body : ∃ (A : Option Addr) (cap : Nat), At w q 90 #[.slice A l.length cap, .map (some m1), .map (some m2)] ∧ Rw w A g cap l ∧ cap ≤ 9223372036854775807
  keys : Mp .string w m1 (keysOf l)
  used : Mp (.int .i64) w m2 (usedOf l)
  two : m1 ≠ m2
  row : g < w.heap.size
  good : Good l

def ZQ (q g m1 m2 : Nat) (r : Nat) : Prop := r = q ∨ r = g ∨ r = m1 ∨ r = m2

theorem At.ne {w : World} {a b : Nat} {t s : TypeId} {cs ds : Array Value} (h : At w a t cs) (k : At w b s ds) (e : t ≠ s) : a ≠ b := fun hab => by
  subst hab
  have h2 := (show w.heap[a]? = _ from h).symm.trans k
  simp at h2
  exact e h2.2
theorem At.ne_map {w : World} {a b : Nat} {t : TypeId} {cs : Array Value} {d : TypeDesc} {f : Value → Option Value} (h : At w a t cs) (k : Mp d w b f) : a ≠ b := fun hab => by
  subst hab
  obtain ⟨es, clock, hb, _⟩ := k
  have h2 := (show w.heap[a]? = _ from h).symm.trans hb
  simp at h2
theorem RowAt.ne_map {w : World} {a b cap : Nat} {l : List E} {d : TypeDesc} {f : Value → Option Value} (h : RowAt w a cap l) (k : Mp d w b f) : a ≠ b := by
  obtain ⟨pad, h1, _⟩ := h
  exact h1.ne_map k
theorem Mp.keep {d : TypeDesc} {w w' : World} {b : Nat} {f : Value → Option Value} {Z : Nat → Prop} (h : Mp d w b f) (k : Keep Z w w') (hz : ¬ Z b) : Mp d w' b f := h.held (k.block b hz h.lt)
theorem Rw.keep {Z : Nat → Prop} {w w' : World} {A : Option Addr} {g cap : Nat} {l : List E} (h : Rw w A g cap l) (k : Keep Z w w') (hz : ¬ Z g) : Rw w' A g cap l := by
  rcases h with h | ⟨h1, h2⟩
  · exact .inl h
  · exact .inr ⟨h1, h2.keep k hz⟩
theorem Rw.reads {w : World} {A : Option Addr} {g cap : Nat} {l : List E} (h : Rw w A g cap l) : Reads w g l := by
  rcases h with ⟨_, rfl, _⟩ | ⟨_, h⟩
  · exact fun k hk => absurd hk (Nat.not_lt_zero _)
  · exact h.reads
theorem Rw.addr {w : World} {A : Option Addr} {g cap : Nat} {l : List E} (h : Rw w A g cap l) : 0 < l.length → A = some ⟨g, 0, none⟩ := fun hl => by
  rcases h with ⟨_, rfl, _⟩ | ⟨h, _⟩
  · simp at hl
  · exact h
theorem Rw.cap {w : World} {A : Option Addr} {g cap : Nat} {l : List E} (h : Rw w A g cap l) : l.length ≤ cap := by
  rcases h with ⟨_, rfl, rfl⟩ | ⟨_, pad, h1, h2⟩
  · exact Nat.le_refl _
  · rw [List.length_append, rows_length] at h2; omega
theorem Qu.keep {Z : Nat → Prop} {w w' : World} {q g m1 m2 : Nat} {l : List E} (h : Qu w q g m1 m2 l) (k : Keep Z w w') (hq : ¬ Z q) (hg : ¬ Z g) (h1 : ¬ Z m1) (h2 : ¬ Z m2) : Qu w' q g m1 m2 l := by
  obtain ⟨A, cap, hA, hr, hc⟩ := h.body
  exact ⟨⟨A, cap, hA.keep k hq, hr.keep k hg, hc⟩, h.keys.keep k h1, h.used.keep k h2, h.two, Nat.lt_of_lt_of_le h.row k.size, h.good⟩
theorem Qu.below {w w' : World} {q g m1 m2 : Nat} {l : List E} (h : Qu w q g m1 m2 l) (k : Below w.heap.size w w') : Qu w' q g m1 m2 l :=
  h.keep (Z := fun _ => False) (.of k) id id id id
theorem Qu.qlt {w : World} {q g m1 m2 : Nat} {l : List E} (h : Qu w q g m1 m2 l) : q < w.heap.size := by
  obtain ⟨A, cap, hA, _⟩ := h.body
  exact hA.lt
theorem Qu.zlt {w : World} {q g m1 m2 : Nat} {l : List E} (h : Qu w q g m1 m2 l) (r : Nat) (z : ZQ q g m1 m2 r) : r < w.heap.size := by
  rcases z with rfl | rfl | rfl | rfl
  · exact h.qlt
  · exact h.row
  · exact h.keys.lt
  · exact h.used.lt

/-- is there an item of this name? -/
theorem idx (l : List E) (i : ByteArray) : (∀ e ∈ l, e.id ≠ i) ∨ ∃ (k : Nat) (hk : k < l.length), l[k].id = i := by
  by_cases h : ∃ e ∈ l, e.id = i
  · obtain ⟨e, he, h⟩ := h
    obtain ⟨k, hk, rfl⟩ := List.getElem_of_mem he
    exact .inr ⟨k, hk, h⟩
  · exact .inl fun e he h' => h ⟨e, he, h'⟩
theorem find_absent {l : List E} {i : ByteArray} (h : ∀ e ∈ l, e.id ≠ i) : l.find? (fun e => decide (e.id = i)) = none := by
  rw [List.find?_eq_none]
  intro e he
  simpa using h e he
theorem find_present {l : List E} (hg : Good l) (k : Nat) (hk : k < l.length) : l.find? (fun e => decide (e.id = l[k].id)) = some l[k] := by
  rw [List.find?_eq_some_iff_getElem]
  refine ⟨by simp, k, hk, rfl, fun j hj => ?_⟩
  have : j ≠ k := by omega
  simp
  exact fun e => this (id_inj hg (by omega) hk e)
theorem find_seq {l : List E} (hg : Good l) (k : Nat) (hk : k < l.length) : l.find? (fun e => decide (e.s = l[k].s)) = some l[k] := by
  rw [List.find?_eq_some_iff_getElem]
  refine ⟨by simp, k, hk, rfl, fun j hj => ?_⟩
  have : j ≠ k := by omega
  simp
  intro e
  have h1 : j < (l.map E.s).length := by simp; omega
  exact this ((List.getElem?_inj h1 hg.seqs).1 (by simp [hk, show j < l.length by omega, e]))

theorem fetch_any {w : World} {q g m1 m2 : Nat} {l : List E} (h : Qu w q g m1 m2 l) (i : ByteArray) (hl : l.length ≤ 100000) :
    Calls Try.prog 46 #[.pointer (some ⟨q, 0, none⟩), .string i] w fun e w' => e = indexOf l i ∧ Below w.heap.size w w' := by
  obtain ⟨A, cap, hA, hr, hc⟩ := h.body
  exact index_any q g cap m1 m2 A l i w h.good.sorted hr.reads h.row hr.addr hl hA h.keys
theorem index_absent {w : World} {q g m1 m2 : Nat} {l : List E} (h : Qu w q g m1 m2 l) (i : ByteArray) (hl : l.length ≤ 100000) (ha : ∀ e ∈ l, e.id ≠ i) :
    Calls Try.prog 46 #[.pointer (some ⟨q, 0, none⟩), .string i] w fun e w' => e = .returned (.tuple #[.int .i64 0, .int .i64 9]) ∧ Below w.heap.size w w' :=
  (fetch_any h i hl).mono fun e w' ⟨h1, h2⟩ => ⟨by rw [h1]; unfold indexOf; rw [find_absent ha], h2⟩
theorem index_present {w : World} {q g m1 m2 : Nat} {l : List E} (h : Qu w q g m1 m2 l) (k : Nat) (hk : k < l.length) (hl : l.length ≤ 100000) :
    Calls Try.prog 46 #[.pointer (some ⟨q, 0, none⟩), .string l[k].id] w fun e w' => e = .returned (.tuple #[.int .i64 (k : Nat), .int .i64 0]) ∧ Below w.heap.size w w' :=
  (fetch_any h _ hl).mono fun e w' ⟨h1, h2⟩ => ⟨by rw [h1]; unfold indexOf; rw [find_present h.good k hk]; dsimp only; rw [lb_own h.good.sorted k hk], h2⟩
theorem find_qu {w : World} {q g m1 m2 : Nat} {l : List E} (h : Qu w q g m1 m2 l) (p s : Int) (hl : l.length ≤ 100000) :
    Calls Try.prog 59 #[.pointer (some ⟨q, 0, none⟩), .agg #[.int .i64 p, .int .i64 s]] w fun e w' => e = .returned (.int .i64 (lb p s l : Nat)) ∧ Below w.heap.size w w' := by
  obtain ⟨A, cap, hA, hr, hc⟩ := h.body
  exact find_any q g cap A l p s _ _ w h.good.sorted hr.reads h.row hr.addr hl hA
end Go.Proofs.Ytmimfhjmhlmibaa
