/- Loops over the queue's iterator: what a caller wants in its body. -/
import Derived.Test.YtmimfhjmhlmibaaIter
namespace Go.Proofs.Ytmimfhjmhlmibaa
open Go.RowKit Go.MapKept Go.ChangeMaps Go.Shelf
set_option linter.unusedVariables false

theorem RL.form2 {w : World} {v : Value} {l : List E} {b : Nat} (h : RL w v l) (hb : b < w.heap.size) : ∃ (Av : Option Addr) (gv cv : Nat), v = .slice Av l.length cv ∧ gv < w.heap.size ∧ (0 < l.length → Av = some ⟨gv, 0, none⟩) ∧ Reads w gv l ∧ l.length ≤ cv := by
  rcases h.form with ⟨rfl, rfl⟩ | ⟨g, cap, rfl, hg, hc, _, hr⟩
  · exact ⟨none, b, 0, rfl, hb, fun h => absurd h (Nat.lt_irrefl _), fun k hk => absurd hk (Nat.not_lt_zero _), Nat.le_refl _⟩
  · exact ⟨_, g, cap, rfl, hg, fun _ => rfl, hr, hc⟩
theorem ownFrom_at {β : Type} (n b : Nat) (t : TypeId) (f : β → Array Value) : OwnFrom n (fun (s : β) W => At W b t (f s)) := fun s X Y row hs hg hr => by
  have hne : some b ≠ row := fun e => by
    obtain ⟨_, o, ho, hc⟩ := hr b e.symm
    rw [show X.heap[b]? = _ from hs] at ho
    cases ho
    cases hc
  exact (hg.block b hs.lt hne).trans hs
theorem ownFrom_low {β : Type} {n B : Nat} {w : World} (hB : B ≤ n) (hn : B ≤ w.heap.size) : OwnFrom n (fun (_ : β) W => Below B w W) := fun s X Y row hs hg hr =>
  ⟨hg.os.trans hs.os, hg.tape.trans hs.tape, hg.output.trans hs.output, Nat.le_trans hs.size hg.size, fun r hr' => by
    have hx : r < X.heap.size := Nat.lt_of_lt_of_le (Nat.lt_of_lt_of_le hr' hn) hs.size
    have hne : some r ≠ row := fun e => by
      obtain ⟨h1, _⟩ := hr r e.symm
      omega
    exact (hg.block r hx hne).trans (hs.block r hr')⟩
/-- a zone that does not hang on the world -/
def Zs (z : Nat → Prop) : World → Nat → Prop := fun _ r => z r
theorem still_zs (n0 : Nat) (z : Nat → Prop) : Still n0 (Zs z) := fun _ _ _ _ _ h => h
theorem kpz_t {Z : World → Nat → Prop} {A B C : World} (h : KpZ Z A B) (k : KpZ Z B C) : KpZ Z A C := h.trans k
theorem kpz_b {z : Nat → Prop} {n : Nat} (W : World) (l : Nat) (o o' : Obj) (hl : n ≤ l) (h : W.heap[l]? = some o) (hc : o.isCells = false) (hk : o.isWalk = false) : KpZ (Zs z) W (W.putObj l o') :=
  ⟨(grownBy_putObj' W l o').size, fun r ob hz ho hob => by
    have hne : r ≠ l := fun e => by subst e; rw [h] at ho; cases ho; rw [hc] at hob; cases hob
    exact (World.putObj_heap_other hne).trans ho, fun _ _ h => h⟩
theorem kpz_set {z : Nat → Prop} (W : World) (p : Addr) (v : Value) (h : z p.block) : KpZ (Zs z) W (W.setCell p v) :=
  ⟨Nat.le_of_eq (World.size_setCell ..).symm, fun r o hz ho _ => (Below.heap_setCell W p v r (fun e => hz (by rw [e]; exact h))).trans ho, fun _ _ h => h⟩
theorem kpz_below {z : Nat → Prop} {W W' : World} (h : Below W.heap.size W W') : KpZ (Zs z) W W' :=
  ⟨h.size, fun r o hz ho _ => (h.block r (Array.getElem?_eq_some_iff.1 ho).1).trans ho, fun _ _ h => h⟩
theorem kpz_keep {z : Nat → Prop} {W W' : World} (h : Keep z W W') : KpZ (Zs z) W W' :=
  ⟨h.size, fun r o hz ho _ => (h.block r hz (Array.getElem?_eq_some_iff.1 ho).1).trans ho, fun _ _ h => h⟩
theorem kf_below {B : Nat} {W W' : World} (h : Below W.heap.size W W') : KeepsFrom B W W' :=
  ⟨h.size, fun k o hk ho _ => (h.block k (Array.getElem?_eq_some_iff.1 ho).1).trans ho⟩
theorem kf_set (B : Nat) (W : World) (p : Addr) (v : Value) : KeepsFrom B W (W.setCell p v) := (KeepsOthers.setCell _ _ _).from B

/-- a list of pairs that has come so far is a part of the queue's -/
theorem pre_next {pre : List (ByteArray × Int)} {l : List E} (h : pre <+: pairs l) (hn : pre.length < l.length) {x : ByteArray × Int} (h1 : x.1 = l[pre.length].id) (h2 : x.2 = l[pre.length].v) : pre ++ [x] <+: pairs l := by
  obtain ⟨t, ht⟩ := h
  have hl : (pairs l).length = l.length := by unfold pairs; simp
  have hg : (pairs l)[pre.length]? = some x := by
    unfold pairs
    rw [List.getElem?_map, List.getElem?_eq_getElem hn]
    obtain ⟨a, b⟩ := x
    simp at h1 h2
    simp [h1, h2]
  rw [← ht, List.getElem?_append_right (Nat.le_refl _), Nat.sub_self] at hg
  cases t with
  | nil => simp at hg
  | cons y t =>
    simp at hg
    subst hg
    exact ⟨t, by rw [← ht]; simp⟩
theorem pre_get {pre : List (ByteArray × Int)} {l : List E} {x : ByteArray × Int} (h : pre ++ [x] <+: pairs l) : ∃ hn : pre.length < l.length, x.1 = l[pre.length].id ∧ x.2 = l[pre.length].v := by
  have hl : (pairs l).length = l.length := by unfold pairs; simp
  have h1 := h.length_le
  rw [List.length_append, hl] at h1
  simp at h1
  refine ⟨by omega, ?_⟩
  have hg : (pairs l)[pre.length]? = some x := by
    obtain ⟨t, ht⟩ := h
    rw [← ht, List.append_assoc, List.getElem?_append_right (Nat.le_refl _), Nat.sub_self]
    rfl
  unfold pairs at hg
  rw [List.getElem?_map, List.getElem?_eq_getElem (by omega)] at hg
  simp at hg
  rw [← hg]
  exact ⟨rfl, rfl⟩
theorem pre_len {pre : List (ByteArray × Int)} {l : List E} (h : pre <+: pairs l) : pre.length ≤ l.length := by
  have := h.length_le
  unfold pairs at this
  simpa using this
theorem pairs_length (l : List E) : (pairs l).length = l.length := by unfold pairs; simp
end Go.Proofs.Ytmimfhjmhlmibaa
