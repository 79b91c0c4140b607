/- The walk of Replace, and of Get. -/
import Derived.Test.YtmimfhjmhlmibaaTurn
namespace Go.Proofs.Ytmimfhjmhlmibaa
open Go.RowKit Go.MapKept Go.ChangeMaps
set_option linter.unusedVariables false
attribute [local go_sem ↓] Go.wp_at_zero Go.wp_at_succ

theorem set_split {l : List E} {k : Nat} (hk : k < l.length) (y : E) : l.set k y = l.take k ++ y :: l.drop (k + 1) := by
  rw [List.set_eq_take_append_cons_drop, if_pos hk]
theorem get_split {l : List E} {k : Nat} (hk : k < l.length) : l = l.take k ++ l[k] :: l.drop (k + 1) := by
  rw [← List.drop_eq_getElem_cons hk, List.take_append_drop]
theorem RowAt.setv {w : World} {g cap k : Nat} {l : List E} {x : E} (h : RowAt w g cap l) (hk : k < l.length) (hx : x = l[k]) (v : Int) :
    RowAt (w.setCell ⟨g, k * 4 + 3, none⟩ (.int .i64 v)) g cap (l.set k { x with v := v }) := by
  obtain ⟨pad, h1, h2⟩ := h
  have e1 : rows l ++ pad = (rows (l.take k) ++ [.string x.id, .int .i64 x.p, .int .i64 x.s]) ++ [.int .i64 x.v] ++ (rows (l.drop (k + 1)) ++ pad) := by
    conv => lhs; rw [get_split hk, ← hx, rows_append]
    show rows (l.take k) ++ (ecells x ++ rows (l.drop (k + 1))) ++ pad = _
    simp [ecells]
  have e2 : rows (l.set k { x with v := v }) ++ pad = (rows (l.take k) ++ [.string x.id, .int .i64 x.p, .int .i64 x.s]) ++ [.int .i64 v] ++ (rows (l.drop (k + 1)) ++ pad) := by
    rw [set_split hk, rows_append]
    show rows (l.take k) ++ (ecells { x with v := v } ++ rows (l.drop (k + 1))) ++ pad = _
    simp [ecells]
  have htl : (rows (l.take k)).length = k * 4 := by rw [rows_length, List.length_take]; congr 1; omega
  rw [e1] at h1
  have h3 := At.setCells [.int .i64 v] _ [.int .i64 x.v] _ rfl h1
  rw [List.length_append, htl] at h3
  refine ⟨pad, ?_, ?_⟩
  · rw [e2]; exact h3
  · rw [List.length_append, rows_length, List.length_set] at *
    exact h2
theorem map_setv {l : List E} {k : Nat} {x : E} (hk : k < l.length) (hx : x = l[k]) (v : Int) : (l.set k { x with v := v }).map E.id = l.map E.id ∧ (l.set k { x with v := v }).map E.s = l.map E.s := by
  subst hx
  constructor
  · rw [List.map_set, show ({ l[k] with v := v } : E).id = (l.map E.id)[k]'(by simpa using hk) by simp, List.set_getElem_self]
  · rw [List.map_set, show ({ l[k] with v := v } : E).s = (l.map E.s)[k]'(by simpa using hk) by simp, List.set_getElem_self]
theorem sorted_setv {l : List E} {k : Nat} {x : E} (hs : Sorted l) (hk : k < l.length) (hx : x = l[k]) (v : Int) : Sorted (l.set k { x with v := v }) := by
  subst hx
  refine List.pairwise_iff_getElem.2 ?_
  intro i j hi hj hij
  rw [List.length_set] at hi hj
  have := sorted_get hs i j hj hij
  by_cases e1 : k = i
  · subst e1
    by_cases e2 : k = j
    · omega
    · rw [List.getElem_set_self, List.getElem_set_ne e2]; exact this
  · by_cases e2 : k = j
    · subst e2
      rw [List.getElem_set_self, List.getElem_set_ne e1]; exact this
    · rw [List.getElem_set_ne e1, List.getElem_set_ne e2]; exact this
theorem Good.setv {l : List E} {k : Nat} {x : E} (h : Good l) (hk : k < l.length) (hx : x = l[k]) (v : Int) : Good (l.set k { x with v := v }) :=
  ⟨sorted_setv h.sorted hk hx v, by rw [(map_setv hk hx v).1]; exact h.ids, by rw [(map_setv hk hx v).2]; exact h.seqs⟩
theorem mem_setv {l : List E} {k : Nat} {x : E} (hk : k < l.length) (hx : x = l[k]) (v : Int) (i : ByteArray) (p s : Int) : (∃ e ∈ l.set k { x with v := v }, e.id = i ∧ e.p = p ∧ e.s = s) ↔ ∃ e ∈ l, e.id = i ∧ e.p = p ∧ e.s = s := by
  have e1 := set_split hk { x with v := v }
  have e2 := get_split hk
  rw [e1]
  conv => rhs; rw [e2]
  rw [← hx]
  simp only [List.mem_append, List.mem_cons]
  constructor
  · rintro ⟨e, h | rfl | h, r⟩
    · exact ⟨e, .inl h, r⟩
    · exact ⟨x, .inr (.inl rfl), r⟩
    · exact ⟨e, .inr (.inr h), r⟩
  · rintro ⟨e, h | rfl | h, r⟩
    · exact ⟨e, .inl h, r⟩
    · exact ⟨_, .inr (.inl rfl), r⟩
    · exact ⟨e, .inr (.inr h), r⟩
theorem keysOf_setv {l : List E} {k : Nat} {x : E} (h : Good l) (hk : k < l.length) (hx : x = l[k]) (v : Int) : keysOf (l.set k { x with v := v }) = keysOf l := by
  funext u
  apply Option.ext
  intro z
  rw [keysOf_iff (h.setv hk hx v), keysOf_iff h]
  constructor
  · rintro ⟨e, he, rfl, rfl⟩
    obtain ⟨e', he', h1, h2, h3⟩ := (mem_setv hk hx v e.id e.p e.s).1 ⟨e, he, rfl, rfl, rfl⟩
    exact ⟨e', he', by rw [h1], by rw [h2, h3]⟩
  · rintro ⟨e, he, rfl, rfl⟩
    obtain ⟨e', he', h1, h2, h3⟩ := (mem_setv hk hx v e.id e.p e.s).2 ⟨e, he, rfl, rfl, rfl⟩
    exact ⟨e', he', by rw [h1], by rw [h2, h3]⟩
theorem usedOf_setv {l : List E} {k : Nat} {x : E} (h : Good l) (hk : k < l.length) (hx : x = l[k]) (v : Int) : usedOf (l.set k { x with v := v }) = usedOf l := by
  funext u
  apply Option.ext
  intro z
  rw [usedOf_iff (h.setv hk hx v), usedOf_iff h]
  constructor
  · rintro ⟨e, he, rfl, rfl⟩
    obtain ⟨e', he', h1, h2, h3⟩ := (mem_setv hk hx v e.id e.p e.s).1 ⟨e, he, rfl, rfl, rfl⟩
    exact ⟨e', he', by rw [h3], rfl⟩
  · rintro ⟨e, he, rfl, rfl⟩
    obtain ⟨e', he', h1, h2, h3⟩ := (mem_setv hk hx v e.id e.p e.s).2 ⟨e, he, rfl, rfl, rfl⟩
    exact ⟨e', he', by rw [h3], rfl⟩

set_option maxRecDepth 100000 in
set_option maxHeartbeats 4000000 in
theorem repl_any (q g m1 m2 : Nat) (l : List E) (i : ByteArray) (v : Int) (w : World) (h : Qu w q g m1 m2 l) (hl : l.length ≤ 60000) :
    Calls Try.prog 33 #[.pointer (some ⟨q, 0, none⟩), .string i, .int .i64 v] w (Turned q g m1 m2 (replP i v l).1 (.returned (.int .i64 (replP i v l).2)) w) := by
  have H := Lib.hid h
  have HL := Lib.hid hl
  by_cases hi : ix i l < l.length
  · obtain ⟨k, hk, x, hx, hid, ha⟩ := repl_yes v hi
    have hc := Lib.hid (index_at h hk hx hid (by omega))
    have HX := Lib.hid hx
    have HA := Lib.hid ha
    have b0 : (0 : Int) ≤ (k : Int) := by omega
    have b1 : (k : Int) < (l.length : Int) := by omega
    clear h hi hx ha hl hid
    go_enter Try.func33, Try.ntmps33
    go_wp2_with fail
    refine hc.out.mono ?_
    rintro e w2 ⟨rfl, hb⟩
    have h2 := H.out.below hb
    obtain ⟨A, cap, hA, hrw, hcap⟩ := h2.body
    obtain rfl := hrw.addr (by omega)
    have hrow : RowAt w2 g cap l := by
      rcases hrw with ⟨a, _⟩ | ⟨_, a⟩
      · cases a
      · exact a
    have q0 := hA.cell 0
    simp at q0
    have c3 := ((hrow.reads) k hk).2.2.2
    have f3 := hrow.frozen (k * 4 + 3)
    have hqg : q ≠ g := by
      obtain ⟨pad, a, _⟩ := hrow
      exact hA.ne a (by decide)
    have hg1 : g ≠ m1 := hrow.ne_map h2.keys
    have hg2 : g ≠ m2 := hrow.ne_map h2.used
    have hk6 : Keep (· = g) w2 (w2.setCell ⟨g, k * 4 + 3, none⟩ (.int .i64 v)) := Keep.setCell (Z := (· = g)) rfl _ _
    have hfin : ∃ g', Qu (w2.setCell ⟨g, k * 4 + 3, none⟩ (.int .i64 v)) q g' m1 m2 (l.set k { x with v := v }) ∧ (g' = g ∨ w.heap.size ≤ g') ∧ Keep (ZQ q g m1 m2) w (w2.setCell ⟨g, k * 4 + 3, none⟩ (.int .i64 v)) := by
      refine ⟨g, ⟨⟨some ⟨g, 0, none⟩, cap, by rw [List.length_set]; exact hA.keep hk6 hqg, .inr ⟨rfl, hrow.setv hk HX.out v⟩, hcap⟩, ?_, ?_, h2.two, Nat.lt_of_lt_of_le h2.row hk6.size, h2.good.setv hk HX.out v⟩, .inl rfl, (Keep.of hb).trans (hk6.mono (fun r _ h => .inr (.inl h)))⟩
      · rw [keysOf_setv h2.good hk HX.out v]; exact h2.keys.keep hk6 (Ne.symm hg1)
      · rw [usedOf_setv h2.good hk HX.out v]; exact h2.used.keep hk6 (Ne.symm hg2)
    have HF := Lib.hid hfin
    clear hfin hk6 hqg hg1 hg2 hrow hrw hA h2
    go_wp2_with fail
    go_ret
    rw [HA.out]
    exact ⟨rfl, HF.out⟩
  · have ha := Lib.hid (show replP i v l = (l, 9) by unfold replP; rw [dif_neg hi])
    have hc := Lib.hid (index_absent h i (by omega) (ix_none hi))
    clear h hi hl
    go_enter Try.func33, Try.ntmps33
    go_wp2_with fail
    refine hc.out.mono ?_
    rintro e w2 ⟨rfl, hb⟩
    go_wp2_with fail
    go_ret
    rw [ha.out]
    exact ⟨rfl, Turned.same H.out hb⟩
end Go.Proofs.Ytmimfhjmhlmibaa
