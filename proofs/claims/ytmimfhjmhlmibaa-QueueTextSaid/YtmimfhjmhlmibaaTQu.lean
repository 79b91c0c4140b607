/- The memory of the queue of texts as one predicate. -/
import Derived.Test.YtmimfhjmhlmibaaTInsAny
namespace Go.Proofs.Ytmimfhjmhlmibaa.T
open Go.RowKit Go.MapKept
set_option linter.unusedVariables false

/-- block q is a queue whose row is block g (or none yet), whose maps are the blocks m1 and m2, and which holds l -/
structure Qu (w : World) (q g m1 m2 : Nat) (l : List E) : Prop where
  body : ∃ (A : Option Addr) (cap : Nat), At w q 75 #[.slice A l.length cap, .map (some m1), .map (some m2)] ∧ Rw w A g cap l ∧ cap ≤ 9223372036854775807
  keys : Mp .string w m1 (keysOf l)
  used : Mp (.int .i64) w m2 (usedOf l)
  two : m1 ≠ m2
  row : g < w.heap.size
  good : Good l

def ZQ (q g m1 m2 : Nat) (r : Nat) : Prop := r = q ∨ r = g ∨ r = m1 ∨ r = m2

theorem RowAt.ne_map {w : World} {a b cap : Nat} {l : List E} {d : TypeDesc} {f : Value → Option Value} (h : RowAt w a cap l) (k : Mp d w b f) : a ≠ b := by
  obtain ⟨pad, h1, _⟩ := h
  exact h1.ne_map k
theorem Rw.keep {Z : Nat → Prop} {w w' : World} {A : Option Addr} {g cap : Nat} {l : List E} (h : Rw w A g cap l) (k : Keep Z w w') (hz : ¬ Z g) : Rw w' A g cap l := by
  rcases h with h | ⟨h1, h2⟩
  · exact .inl h
  · exact .inr ⟨h1, h2.keep k hz⟩
theorem Rw.reads {w : World} {A : Option Addr} {g cap : Nat} {l : List E} (h : Rw w A g cap l) : Reads w g l := by
  rcases h with ⟨_, rfl, _⟩ | ⟨_, h⟩
  · exact fun k hk => absurd hk (Nat.not_lt_zero _)
  · exact h.reads
theorem Rw.addr {w : World} {A : Option Addr} {g cap : Nat} {l : List E} (h : Rw w A g cap l) : 0 < l.length → A = some ⟨g, 0, none⟩ := fun hl => by
  rcases h with ⟨_, rfl, _⟩ | ⟨h, _⟩
  · simp at hl
  · exact h
theorem Rw.cap {w : World} {A : Option Addr} {g cap : Nat} {l : List E} (h : Rw w A g cap l) : l.length ≤ cap := by
  rcases h with ⟨_, rfl, rfl⟩ | ⟨_, pad, h1, h2⟩
  · exact Nat.le_refl _
  · rw [List.length_append, rows_length] at h2; omega
theorem Qu.keep {Z : Nat → Prop} {w w' : World} {q g m1 m2 : Nat} {l : List E} (h : Qu w q g m1 m2 l) (k : Keep Z w w') (hq : ¬ Z q) (hg : ¬ Z g) (h1 : ¬ Z m1) (h2 : ¬ Z m2) : Qu w' q g m1 m2 l := by
  obtain ⟨A, cap, hA, hr, hc⟩ := h.body
  exact ⟨⟨A, cap, hA.keep k hq, hr.keep k hg, hc⟩, h.keys.keep k h1, h.used.keep k h2, h.two, Nat.lt_of_lt_of_le h.row k.size, h.good⟩
theorem Qu.below {w w' : World} {q g m1 m2 : Nat} {l : List E} (h : Qu w q g m1 m2 l) (k : Below w.heap.size w w') : Qu w' q g m1 m2 l :=
  h.keep (Z := fun _ => False) (.of k) id id id id
theorem Qu.qlt {w : World} {q g m1 m2 : Nat} {l : List E} (h : Qu w q g m1 m2 l) : q < w.heap.size := by
  obtain ⟨A, cap, hA, _⟩ := h.body
  exact hA.lt
theorem Qu.zlt {w : World} {q g m1 m2 : Nat} {l : List E} (h : Qu w q g m1 m2 l) (r : Nat) (z : ZQ q g m1 m2 r) : r < w.heap.size := by
  rcases z with rfl | rfl | rfl | rfl
  · exact h.qlt
  · exact h.row
  · exact h.keys.lt
  · exact h.used.lt

theorem find_qu {w : World} {q g m1 m2 : Nat} {l : List E} (h : Qu w q g m1 m2 l) (p s : Int) (hl : l.length ≤ 100000) :
    Calls Try.prog 56 #[.pointer (some ⟨q, 0, none⟩), .agg #[.int .i64 p, .int .i64 s]] w fun e w' => e = .returned (.int .i64 (lb p s l : Nat)) ∧ Below w.heap.size w w' := by
  obtain ⟨A, cap, hA, hr, hc⟩ := h.body
  exact find_any q g cap A l p s _ _ w h.good.sorted hr.reads h.row hr.addr hl hA
end Go.Proofs.Ytmimfhjmhlmibaa.T
