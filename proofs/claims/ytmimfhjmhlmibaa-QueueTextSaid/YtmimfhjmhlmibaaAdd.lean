/- The walk of Add. -/
import Derived.Test.YtmimfhjmhlmibaaEnter
namespace Go.Proofs.Ytmimfhjmhlmibaa
open Go.RowKit Go.MapKept Go.ChangeMaps
set_option linter.unusedVariables false
attribute [local go_sem ↓] Go.wp_at_zero Go.wp_at_succ

open Classical in
/-- what Add answers, and what it leaves -/
noncomputable def addP (x : E) (l : List E) : List E × Int :=
  if x.id.size = 0 ∨ 64 < x.id.size then (l, 6) else if ¬ (0 ≤ x.p ∧ x.p ≤ 2) ∨ x.s < 0 then (l, 2) else if ∃ e ∈ l, e.id = x.id then (l, 7) else if ∃ e ∈ l, e.s = x.s then (l, 23) else (insP x l, 0)

/-- the queue holds l' now; all else is as it was -/
def Turned (q g m1 m2 : Nat) (l' : List E) (r : Ending) (w : World) (e : Ending) (w' : World) : Prop :=
  e = r ∧ ∃ g', Qu w' q g' m1 m2 l' ∧ (g' = g ∨ w.heap.size ≤ g') ∧ Keep (ZQ q g m1 m2) w w'
theorem Turned.same {w w' : World} {q g m1 m2 : Nat} {l : List E} (h : Qu w q g m1 m2 l) (hb : Below w.heap.size w w') : ∃ g', Qu w' q g' m1 m2 l ∧ (g' = g ∨ w.heap.size ≤ g') ∧ Keep (ZQ q g m1 m2) w w' :=
  ⟨g, h.below hb, .inl rfl, .of hb⟩

theorem valid_yes (p : Int) (w : World) (h : 0 ≤ p ∧ p ≤ 2) : Calls Try.prog 39 #[.int .i64 p] w fun e w' => e = .returned (.bool true) ∧ w = w' :=
  (valid_any p w).mono fun e w' ⟨h1, h2⟩ => ⟨by rw [h1, decide_eq_true h], h2⟩
theorem valid_no (p : Int) (w : World) (h : ¬ (0 ≤ p ∧ p ≤ 2)) : Calls Try.prog 39 #[.int .i64 p] w fun e w' => e = .returned (.bool false) ∧ w = w' :=
  (valid_any p w).mono fun e w' ⟨h1, h2⟩ => ⟨by rw [h1, decide_eq_false h], h2⟩
theorem empty_toList {s : ByteArray} (h : s.size = 0) : s.toList = [] := by
  rw [Lib.toList_data]
  exact List.length_eq_zero_iff.1 h
theorem full_toList {s : ByteArray} (h : ¬ s.size = 0) : ¬ s.toList = [] := by
  rw [Lib.toList_data]
  exact fun e => h (List.length_eq_zero_iff.2 e)
theorem full_isEmpty {s : ByteArray} (h : ¬ s.size = 0) : s.toList.isEmpty = false := by
  have := full_toList h
  cases hs : s.toList with
  | nil => exact absurd hs this
  | cons a b => rfl
theorem usedOf_none {l : List E} {i : Int} (h : ∀ e ∈ l, e.s ≠ i) : usedOf l (.int .i64 i) = none := by
  cases hu : usedOf l (.int .i64 i) with
  | none => rfl
  | some v =>
    unfold usedOf at hu
    simp only [Option.map_eq_some_iff] at hu
    obtain ⟨e, h1, h2⟩ := hu
    have h3 := List.find?_some h1
    simp at h3
    exact absurd h3 (h e (List.mem_of_find?_eq_some h1))

theorem lt_max {n : Nat} (h : n ≤ 60000) : ¬ (65536 : Int) ≤ (n : Int) := by omega
set_option maxRecDepth 100000 in
set_option maxHeartbeats 4000000 in
theorem add_any (q g m1 m2 : Nat) (l : List E) (x : E) (w : World) (h : Qu w q g m1 m2 l) (hl : l.length ≤ 60000) :
    Calls Try.prog 25 #[.pointer (some ⟨q, 0, none⟩), .string x.id, .agg #[.int .i64 x.p, .int .i64 x.s], .int .i64 x.v] w (Turned q g m1 m2 (addP x l).1 (.returned (.int .i64 (addP x l).2)) w) := by
  have H := Lib.hid h
  have hB1 := Lib.hid ((Below.refl _ _).alloc (Nat.le_refl _) (.cells #[.int .i64 x.p, .int .i64 x.s] 25) : Below w.heap.size w (w.alloc (.cells #[.int .i64 x.p, .int .i64 x.s] 25)))
  clear h
  by_cases h0 : x.id.size = 0
  · have ha := Lib.hid (show addP x l = (l, 6) by unfold addP; rw [if_pos (.inl h0)])
    have h2 := empty_toList h0
    clear h0
    go_enter Try.func25, Try.ntmps25
    go_wp2_with fail
    go_ret
    rw [ha.out]
    exact ⟨rfl, Turned.same H.out hB1.out⟩
  have h2 := full_isEmpty h0
  have h3 := full_toList h0
  by_cases h64 : 64 < x.id.size
  · have ha := Lib.hid (show addP x l = (l, 6) by unfold addP; rw [if_pos (.inr h64)])
    clear h0
    go_enter Try.func25, Try.ntmps25
    go_wp2_with fail
    go_ret
    rw [ha.out]
    exact ⟨rfl, Turned.same H.out hB1.out⟩
  have hc1 := Lib.hid (show ¬ (x.id.size = 0 ∨ 64 < x.id.size) by omega)
  clear h0
  by_cases hv : 0 ≤ x.p ∧ x.p ≤ 2
  case neg =>
    have ha := Lib.hid (show addP x l = (l, 2) by unfold addP; rw [if_neg hc1.out, if_pos (.inl hv)])
    have HV := Lib.hid hv
    clear hv
    go_enter Try.func25, Try.ntmps25
    go_wp2_with (go_at_call 39; refine (valid_no _ _ HV.out).mono ?_; rintro e w' ⟨rfl, rfl⟩)
    go_ret
    rw [ha.out]
    exact ⟨rfl, Turned.same H.out hB1.out⟩
  have HV := Lib.hid hv
  clear hv
  by_cases hs : x.s < 0
  · have ha := Lib.hid (show addP x l = (l, 2) by unfold addP; rw [if_neg hc1.out, if_pos (.inr hs)])
    go_enter Try.func25, Try.ntmps25
    go_wp2_with (go_at_call 39; refine (valid_yes _ _ HV.out).mono ?_; rintro e w' ⟨rfl, rfl⟩)
    go_ret
    rw [ha.out]
    exact ⟨rfl, Turned.same H.out hB1.out⟩
  have hc2 := Lib.hid (show ¬ (¬ (0 ≤ x.p ∧ x.p ≤ 2) ∨ x.s < 0) from fun h => h.elim (fun h => h HV.out) hs)
  obtain ⟨A, cap, hA, hrw, hcap⟩ := (H.out.below hB1.out).body
  have q0 := hA.cell 0
  have q1 := hA.cell 1
  have q2 := hA.cell 2
  simp at q0 q1 q2
  have hqr := hA.lt
  have HA := Lib.hid hA
  clear hA hrw hcap
  have hlook := (H.out.below hB1.out).keys.lookup (P := Try.prog) (k := .string x.id) und_keys und_string trivial (zero_key _) true
  by_cases hid : ∃ e ∈ l, e.id = x.id
  · have ha := Lib.hid (show addP x l = (l, 7) by unfold addP; rw [if_neg hc1.out, if_neg hc2.out, if_pos hid])
    have hk : ∃ u, keysOf l (.string x.id) = some u := by
      obtain ⟨e, he, h⟩ := hid
      exact ⟨_, (keysOf_iff H.out.good _ _).2 ⟨e, he, by rw [h], rfl⟩⟩
    obtain ⟨u, hk⟩ := hk
    obtain ⟨e0, -, -, rfl⟩ := (keysOf_iff H.out.good _ _).1 hk
    rw [hk] at hlook
    simp at hlook
    clear hid hk
    go_enter Try.func25, Try.ntmps25
    go_wp2_with (go_at_call 39; refine (valid_yes _ _ HV.out).mono ?_; rintro e w' ⟨rfl, rfl⟩)
    go_ret
    rw [ha.out]
    exact ⟨rfl, Turned.same H.out (hB1.out.alloc hB1.out.size _)⟩
  have hk : keysOf l (.string x.id) = none := by
    cases hk : keysOf l (.string x.id) with
    | none => rfl
    | some u =>
      obtain ⟨e, he, h, _⟩ := (keysOf_iff H.out.good _ _).1 hk
      exact absurd ⟨e, he, by simpa using h⟩ hid
  rw [hk] at hlook
  simp at hlook
  clear hk
  have HID := Lib.hid hid
  clear hid
  obtain ⟨w1, hw1⟩ : ∃ w1, (w.alloc (.cells #[.int .i64 x.p, .int .i64 x.s] 25)).alloc (.cells #[.int .i64 0, .int .i64 0] 25) = w1 := ⟨_, rfl⟩
  have hB2 : Below w.heap.size w w1 := by rw [← hw1]; exact hB1.out.alloc hB1.out.size _
  have hB2' : Below (w.alloc (.cells #[.int .i64 x.p, .int .i64 x.s] 25)).heap.size (w.alloc (.cells #[.int .i64 x.p, .int .i64 x.s] 25)) w1 := by rw [← hw1]; exact (Below.refl _ _).alloc (Nat.le_refl _) _
  have hA1 := HA.out.below hB2' hqr
  have hX1 : At w1 w.heap.size 25 #[.int .i64 x.p, .int .i64 x.s] := by rw [← hw1]; exact (At.new w 25 #[.int .i64 x.p, .int .i64 x.s]).alloc _
  have hl2 := ((H.out.below hB2).used.held (w' := w1.drew) rfl).lookup (P := Try.prog) (k := .int .i64 x.s) und_used und_int rfl (zero_bool _) false
  have s0 := hX1.cell 0
  have s1 := hX1.cell 1
  have t0 := hA1.cell 0
  have t2 := hA1.cell 2
  simp at s0 s1 t0 t2
  have hS2 := hX1.lt
  have HB2 := Lib.hid hB2
  have hW1 := Lib.hid hw1
  clear hA1 hX1 hB2 hw1 hB2'
  by_cases hsq : ∃ e ∈ l, e.s = x.s
  · have ha := Lib.hid (show addP x l = (l, 23) by unfold addP; rw [if_neg hc1.out, if_neg hc2.out, if_neg HID.out, if_pos hsq])
    have hk : usedOf l (.int .i64 x.s) = some (.bool true) := by
      obtain ⟨e, he, h⟩ := hsq
      exact (usedOf_iff H.out.good _ _).2 ⟨e, he, by rw [h], rfl⟩
    rw [hk] at hl2
    simp at hl2
    clear hsq hk
    go_enter Try.func25, Try.ntmps25
    go_wp2_with (go_at_call 39; refine (valid_yes _ _ HV.out).mono ?_; rintro e w' ⟨rfl, rfl⟩)
    rw [hW1.out]
    go_region_held3 (fun w' => w'.cell? ⟨q, 2, none⟩ = some (.map (some m2)) ∧ w'.cell? ⟨w.heap.size, 1, none⟩ = some (.int .i64 x.s) ∧ w' = w1.drew) (exact ⟨t2, s1, rfl⟩) (fail)
    go_wp2_with fail
    go_ret
    rw [ha.out]
    exact ⟨rfl, Turned.same H.out HB2.out.drew⟩
  have ha := Lib.hid (show addP x l = (insP x l, 0) by unfold addP; rw [if_neg hc1.out, if_neg hc2.out, if_neg HID.out, if_neg hsq])
  have hk : usedOf l (.int .i64 x.s) = none := usedOf_none (fun e he h => hsq ⟨e, he, h⟩)
  rw [hk] at hl2
  simp at hl2
  have HSQ := Lib.hid hsq
  have HL := Lib.hid hl
  clear hsq hk
  have henter := enter_any q g m1 m2 l x w1.drew (H.out.below HB2.out.drew) (by omega) (fun e he h => HID.out ⟨e, he, h⟩) (fun e he h => HSQ.out ⟨e, he, h⟩)
  have HE := Lib.hid henter
  clear henter hl
  go_enter Try.func25, Try.ntmps25
  go_wp2_with (go_at_call 39; refine (valid_yes _ _ HV.out).mono ?_; rintro e w' ⟨rfl, rfl⟩)
  rw [hW1.out]
  go_region_held3 (fun w' => w'.cell? ⟨q, 2, none⟩ = some (.map (some m2)) ∧ w'.cell? ⟨w.heap.size, 1, none⟩ = some (.int .i64 x.s) ∧ w' = w1.drew) (exact ⟨t2, s1, rfl⟩) (fail)
  have hlen := lt_max HL.out
  go_wp2_with fail
  refine HE.out.mono ?_
  rintro e w' ⟨rfl, g', hq', hg', hk'⟩
  go_wp2_with fail
  go_ret
  rw [ha.out]
  refine ⟨rfl, g', hq', ?_, (Keep.of HB2.out.drew).trans hk'⟩
  rcases hg' with h | h
  · exact .inl h
  · exact .inr (Nat.le_trans HB2.out.size h)
end Go.Proofs.Ytmimfhjmhlmibaa
