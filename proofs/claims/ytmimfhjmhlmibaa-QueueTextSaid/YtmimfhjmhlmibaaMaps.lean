/- A map's block as a partial function on its keys: lookup, an entry's two steps, delete. -/
import Derived.Test.YtmimfhjmhlmibaaCmp
import Derived.MapKept
import Derived.ChangeMaps4
namespace Go.Proofs.Ytmimfhjmhlmibaa
open Go.MapKept Go.ChangeMaps Go.RowKit
set_option linter.unusedVariables false

def Tab (es : Array MapEntry) (f : Value → Option Value) : Prop := ∀ k v, f k = some v ↔ ∃ (i : Nat) (x : MapEntry), es[i]? = some x ∧ x.key = k ∧ x.val = v
def Mp (d : TypeDesc) (w : World) (b : Nat) (f : Value → Option Value) : Prop :=
  ∃ es clock, w.heap[b]? = some (.map es clock) ∧ Stamped es clock ∧ (∀ x ∈ es.toList, IsKey d x.key) ∧ Tab es f
/-- between the two steps of an assignment: the entry of k, born n, waits for its value -/
def Mid (d : TypeDesc) (w : World) (b : Nat) (f : Value → Option Value) (k : Value) (n : Nat) : Prop :=
  ∃ es clock, w.heap[b]? = some (.map es clock) ∧ Stamped es clock ∧ (∀ x ∈ es.toList, IsKey d x.key) ∧
    (∃ (i : Nat) (x : MapEntry), es[i]? = some x ∧ x.key = k ∧ x.born = n) ∧ ∀ k' v, k' ≠ k → (f k' = some v ↔ ∃ (i : Nat) (x : MapEntry), es[i]? = some x ∧ x.key = k' ∧ x.val = v)
open Classical in
noncomputable def put (f : Value → Option Value) (k v : Value) : Value → Option Value := fun k' => if k' = k then some v else f k'
open Classical in
noncomputable def del (f : Value → Option Value) (k : Value) : Value → Option Value := fun k' => if k' = k then none else f k'

theorem key_inj {es : Array MapEntry} {clock : Nat} (h : Stamped es clock) {i j : Nat} {x y : MapEntry} (hi : es[i]? = some x) (hj : es[j]? = some y) (e : x.key = y.key) : i = j := by
  have hi' : es.toList[i]? = some x := by simpa using hi
  have hj' : es.toList[j]? = some y := by simpa using hj
  have hl : i < es.toList.length := (List.getElem?_eq_some_iff.1 hi').1
  exact (List.getElem?_inj (by simpa using hl) h.2.2).1 (by simp [hi', hj', e])
theorem born_inj {es : Array MapEntry} {clock : Nat} (h : Stamped es clock) {i j : Nat} {x y : MapEntry} (hi : es[i]? = some x) (hj : es[j]? = some y) (e : x.born = y.born) : i = j := by
  have hi' : es.toList[i]? = some x := by simpa using hi
  have hj' : es.toList[j]? = some y := by simpa using hj
  have hl : i < es.toList.length := (List.getElem?_eq_some_iff.1 hi').1
  exact (List.getElem?_inj (by simpa using hl) h.2.1).1 (by simp [hi', hj', e])

section
variable {P : Program} {w : World} {t kt et : TypeId} {d : TypeDesc} {b : Nat} {f : Value → Option Value} {k : Value}
theorem Mp.lookup (h : Mp d w b f) (hm : P.underlying t = some (.map kt et)) (hd : P.underlying kt = some d) (hk : IsKey d k) {z : Value} (hz : (zeroValue et).run P w = .ok z w) (c : Bool) :
    (Instr.lookup t (.map (some b)) k c).run P w = .ok (if c then .tuple #[(f k).getD z, .bool (f k).isSome] else (f k).getD z) w := by
  obtain ⟨es, clock, hb, hs, hks, hf⟩ := h
  rcases findNow_spec hk es.toList 0 hks with ⟨h1, h2⟩ | ⟨j, e, h1, h2, h3⟩
  · have hn : f k = none := by
      cases hfk : f k with
      | none => rfl
      | some v =>
        obtain ⟨i, x, hi, hx, _⟩ := (hf k v).1 hfk
        exact absurd hx (h2 x (List.mem_of_getElem? (by simpa using hi : es.toList[i]? = some x)))
    simp [Instr.lookup, run_underlying hm, MapKept.run_getObj_map hb, MapKept.run_checkKey hd hk, MapKept.run_findKey hd h1, hz, hn, Result.andThen]
  · have hn : f k = some e.val := (hf k e.val).2 ⟨j, e, by simpa using h2, h3, rfl⟩
    simp [Instr.lookup, run_underlying hm, MapKept.run_getObj_map hb, MapKept.run_checkKey hd hk, MapKept.run_findKey hd h1, hn, Result.andThen]

theorem Mp.entry (h : Mp d w b f) (hm : P.underlying t = some (.map kt et)) (hd : P.underlying kt = some d) (hk : IsKey d k) {z : Value} (hz : (zeroValue et).run P w = .ok z w) :
    ∃ o v n, (Instr.mapEntry t (.map (some b)) k).run P w = .ok (.tuple #[v, goInt (n : Nat)]) (setBlock w b o) ∧ Mid d (setBlock w b o) b f k n := by
  obtain ⟨es, clock, hb, hs, hks, hf⟩ := h
  rcases findNow_spec hk es.toList 0 hks with ⟨h1, h2⟩ | ⟨j, e, h1, h2, h3⟩
  · refine ⟨.map (es.push { key := k, val := z, born := clock }) (clock + 1), z, clock, by simp [Instr.mapEntry, run_underlying hm, MapKept.run_getObj_map hb, MapKept.run_checkKey hd hk, MapKept.run_findKey hd h1, hz, MapKept.run_setObj_map _ hb, Result.andThen, setBlock], _, _, (MapKept.heap_set hb).1, stamped_push hs h2, ?_, ⟨es.size, { key := k, val := z, born := clock }, by simp, rfl, rfl⟩, ?_⟩
    · intro x hx
      simp only [Array.toList_push, List.mem_append, List.mem_singleton] at hx
      rcases hx with hx | rfl
      · exact hks x hx
      · exact hk
    · intro k' v hne
      rw [hf k' v]
      constructor
      · rintro ⟨i, x, hi, hx, hv⟩
        have hl : i < es.size := (Array.getElem?_eq_some_iff.1 hi).1
        exact ⟨i, x, by rw [Array.getElem?_push, if_neg (by omega)]; exact hi, hx, hv⟩
      · rintro ⟨i, x, hi, hx, hv⟩
        rw [Array.getElem?_push] at hi
        split at hi
        · simp at hi; subst hi; exact absurd hx.symm hne
        · exact ⟨i, x, hi, hx, hv⟩
  · have hj : es[j]? = some e := by simpa using h2
    have hkey : ∀ e', es[j]? = some e' → ({ e' with key := k } : MapEntry).key = e'.key := fun e' he' => by rw [hj] at he'; cases he'; exact h3.symm
    refine ⟨.map (es.modify j fun e => { e with key := k }) clock, e.val, e.born, by simp [Instr.mapEntry, run_underlying hm, MapKept.run_getObj_map hb, MapKept.run_checkKey hd hk, MapKept.run_findKey hd h1, hj, h3, MapKept.run_keyThatStays hk, MapKept.run_setObj_map _ hb, Result.andThen, setBlock], _, _, (MapKept.heap_set hb).1,
      stamped_modify hs _ _ (fun _ _ => rfl) (fun e' _ he' => hkey e' he'), isKey_modify hks _ _ hkey, ⟨j, { e with key := k }, by simp [Array.getElem?_modify, hj], rfl, rfl⟩, ?_⟩
    intro k' v hne
    rw [hf k' v]
    constructor
    · rintro ⟨i, x, hi, hx, hv⟩
      have : j ≠ i := fun e1 => by subst e1; rw [hj] at hi; cases hi; exact hne (hx.symm.trans h3)
      exact ⟨i, x, by simp [Array.getElem?_modify, this, hi], hx, hv⟩
    · rintro ⟨i, x, hi, hx, hv⟩
      rw [Array.getElem?_modify] at hi
      split at hi
      · rename_i e1; subst e1; rw [hj] at hi; simp at hi; subst hi; exact absurd hx.symm hne
      · exact ⟨i, x, hi, hx, hv⟩

theorem Mid.store {n : Nat} (h : Mid d w b f k n) (v : Value) : ∃ o, (Instr.entryStore t (.map (some b)) (goInt n) v).run P w = .ok () (setBlock w b o) ∧ Mp d (setBlock w b o) b (put f k v) := by
  obtain ⟨es, clock, hb, hs, hks, ⟨j, x, hj, hxk, hxn⟩, hf⟩ := h
  have hfind : es.findIdx? (fun e => (e.born : Int) == (n : Int)) = some j := by
    cases hc : es.findIdx? (fun e => (e.born : Int) == (n : Int)) with
    | none =>
      rw [Array.findIdx?_eq_none_iff] at hc
      have := hc x (Array.mem_of_getElem? hj)
      simp [hxn] at this
    | some i =>
      obtain ⟨hi, hp, _⟩ := Array.findIdx?_eq_some_iff_getElem.1 hc
      have hb' : es[i].born = n := by
        have : (es[i].born : Int) = (n : Int) := by simpa using hp
        omega
      exact congrArg some (born_inj hs (Array.getElem?_eq_getElem hi) hj (hb'.trans hxn.symm))
  refine ⟨.map (es.modify j fun e => { e with val := v }) clock, ?_, _, _, (MapKept.heap_set hb).1, stamped_modify hs _ _ (fun _ _ => rfl) (fun _ _ _ => rfl), isKey_modify hks _ _ (fun _ _ => rfl), ?_⟩
  · simp [Instr.entryStore, MapKept.run_getObj_map hb, goInt, asInt, asIntOf, hfind, MapKept.run_setObj_map _ hb, Result.andThen, setBlock]
  · intro k' v'
    by_cases hk' : k' = k
    · subst hk'
      simp only [put, if_true]
      constructor
      · intro e; cases e
        exact ⟨j, { x with val := v }, by simp [Array.getElem?_modify, hj], hxk, rfl⟩
      · rintro ⟨i, y, hi, hy, hv⟩
        rw [Array.getElem?_modify] at hi
        split at hi
        · rename_i e1; subst e1; rw [hj] at hi; simp at hi; subst hi; simpa using hv
        · rename_i hne
          exact absurd (key_inj hs hj hi (hxk.trans hy.symm)) hne
    · simp only [put, if_neg hk']
      rw [hf k' v' hk']
      constructor
      · rintro ⟨i, y, hi, hy, hv⟩
        have : j ≠ i := fun e1 => by subst e1; rw [hj] at hi; cases hi; exact hk' (hy.symm.trans hxk)
        exact ⟨i, y, by simp [Array.getElem?_modify, this, hi], hy, hv⟩
      · rintro ⟨i, y, hi, hy, hv⟩
        rw [Array.getElem?_modify] at hi
        split at hi
        · rename_i e1; subst e1; rw [hj] at hi; simp at hi; subst hi; exact absurd (hy.symm.trans hxk) hk'
        · exact ⟨i, y, hi, hy, hv⟩

theorem Mp.drop {ty : TypeId} (h : Mp d w b f) (hm : P.underlying t = some (.map kt et)) (hd : P.underlying kt = some d) (hk : IsKey d k) :
    ∃ o, (Builtin.delete_ #[t, kt] ty #[.map (some b), k]).run P w = .ok (.tuple #[]) (setBlock w b o) ∧ Mp d (setBlock w b o) b (del f k) := by
  obtain ⟨es, clock, hb, hs, hks, hf⟩ := h
  rcases findNow_spec hk es.toList 0 hks with ⟨h1, h2⟩ | ⟨j, e, h1, h2, h3⟩
  · refine ⟨.map es clock, by simp [Builtin.delete_, run_underlying hm, MapKept.run_getObj_map hb, MapKept.run_checkKey hd hk, MapKept.run_findKey hd h1, MapKept.run_setObj_map _ hb, Result.andThen, setBlock], _, _, (MapKept.heap_set hb).1, hs, hks, ?_⟩
    intro k' v
    by_cases hk' : k' = k
    · subst hk'
      simp only [del, if_true]
      constructor
      · intro e; cases e
      · rintro ⟨i, x, hi, hx, _⟩
        exact absurd hx (h2 x (List.mem_of_getElem? (by simpa using hi : es.toList[i]? = some x)))
    · simp only [del, if_neg hk']
      exact hf k' v
  · have hj : es[j]? = some e := by simpa using h2
    have hjl : j < es.toList.length := (List.getElem?_eq_some_iff.1 h2).1
    have hjs : j < es.size := by simpa using hjl
    have hsub : (es.eraseIdxIfInBounds j).toList = es.toList.eraseIdx j := by
      unfold Array.eraseIdxIfInBounds
      rw [dif_pos hjs]
      simp
    refine ⟨.map (es.eraseIdxIfInBounds j) clock, by simp [Builtin.delete_, run_underlying hm, MapKept.run_getObj_map hb, MapKept.run_checkKey hd hk, MapKept.run_findKey hd h1, MapKept.run_setObj_map _ hb, Result.andThen, setBlock], _, _, (MapKept.heap_set hb).1, stamped_erase hs _, ?_, ?_⟩
    · intro x hx
      rw [hsub] at hx
      exact hks x ((List.eraseIdx_sublist _ _).subset hx)
    · have hget : ∀ i : Nat, (es.eraseIdxIfInBounds j)[i]? = if i < j then es[i]? else es[i + 1]? := fun i => by
        rw [← Array.getElem?_toList, hsub, List.getElem?_eraseIdx]
        simp
      intro k' v
      by_cases hk' : k' = k
      · subst hk'
        simp only [del, if_true]
        constructor
        · intro e; cases e
        · rintro ⟨i, x, hi, hx, _⟩
          rw [hget] at hi
          split at hi
          · exact absurd (key_inj hs hi hj (hx.trans h3.symm)) (by omega)
          · exact absurd (key_inj hs hi hj (hx.trans h3.symm)) (by omega)
      · simp only [del, if_neg hk']
        rw [hf k' v]
        constructor
        · rintro ⟨i, x, hi, hx, hv⟩
          have hne : i ≠ j := fun e1 => by subst e1; rw [hj] at hi; cases hi; exact hk' (hx.symm.trans h3)
          by_cases hlt : i < j
          · exact ⟨i, x, by rw [hget, if_pos hlt]; exact hi, hx, hv⟩
          · exact ⟨i - 1, x, by rw [hget, if_neg (by omega), show i - 1 + 1 = i by omega]; exact hi, hx, hv⟩
        · rintro ⟨i, x, hi, hx, hv⟩
          rw [hget] at hi
          split at hi
          · exact ⟨_, x, hi, hx, hv⟩
          · exact ⟨_, x, hi, hx, hv⟩

theorem Mp.made (w : World) (d : TypeDesc) : Mp d (w.alloc (.map #[] 0)) w.heap.size (fun _ => none) :=
  ⟨#[], 0, (MapKept.heap_alloc w _).1, by simp [Stamped], by simp, fun k v => by simp⟩
theorem Mp.lt (h : Mp d w b f) : b < w.heap.size := by
  obtain ⟨es, clock, hb, _⟩ := h
  exact (Array.getElem?_eq_some_iff.1 hb).1
theorem Mp.held {w' : World} (h : Mp d w b f) (e : w'.heap[b]? = w.heap[b]?) : Mp d w' b f := by
  obtain ⟨es, clock, hb, r⟩ := h
  exact ⟨es, clock, e.trans hb, r⟩
theorem Mid.held {w' : World} {n : Nat} (h : Mid d w b f k n) (e : w'.heap[b]? = w.heap[b]?) : Mid d w' b f k n := by
  obtain ⟨es, clock, hb, r⟩ := h
  exact ⟨es, clock, e.trans hb, r⟩
theorem Mp.below {w' : World} {B : Nat} (h : Mp d w b f) (hb : Below B w w') (hg : b < B) : Mp d w' b f := h.held (hb.block b hg)
theorem setBlock_other {r : Nat} (hne : r ≠ b) (o : Obj) : (setBlock w b o).heap[r]? = w.heap[r]? := by
  simp [setBlock, Ne.symm hne]
theorem Mp.clone {t' : TypeId} (h : Mp d w b f) : ∃ w', (Extern.MapsClone.clone #[.iface t' (.map (some b))]).run P w = .ok (.iface t' (.map (some w.heap.size))) w' ∧ (∃ o, w' = w.alloc o) ∧ Mp d w' w.heap.size f := by
  obtain ⟨es, clock, hb, hs, hks, hf⟩ := h
  have e : Extern.MapsClone.clone #[.iface t' (.map (some b))] = (getObj b >>= fun o => match o with
      | .map entries clock => (newObj (.map entries clock) >>= fun n => pure (.iface t' (.map (some n))))
      | _ => stuck "maps.clone: a map expected") := rfl
  refine ⟨w.alloc (.map es clock), ?_, ⟨_, rfl⟩, es, clock, (MapKept.heap_alloc w _).1, hs, hks, hf⟩
  rw [e]
  simp [MapKept.run_getObj_map hb, Result.andThen]
end
end Go.Proofs.Ytmimfhjmhlmibaa
