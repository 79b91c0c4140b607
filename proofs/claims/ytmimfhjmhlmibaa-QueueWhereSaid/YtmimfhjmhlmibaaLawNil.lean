/- The walk of the law QueueNil. -/
import Derived.Test.YtmimfhjmhlmibaaNil
namespace Go.Proofs.Ytmimfhjmhlmibaa
open Go.RowKit Go.MapKept Go.ChangeMaps Go.Shelf
set_option linter.unusedVariables false
attribute [local go_sem ↓] Go.wp_at_zero Go.wp_at_succ
attribute [local go_sem] Oper.semAt_some

theorem ownFrom_obj {β : Type} {n D : Nat} (o : Obj) (hD : D < n) : OwnFrom n (fun (_ : β) W => W.heap[D]? = some o) := fun s X Y row hs hg hr => by
  have hne : some D ≠ row := fun e => by
    obtain ⟨h1, _⟩ := hr D e.symm
    omega
  exact (hg.block D (Array.getElem?_eq_some_iff.1 hs).1 hne).trans hs

/-- the way out of a function with two ranges: the result stored, the two marks taken -/
theorem leave2 {w W : World} {r D1 D2 : Nat} {u : Value} (hr : At W r 4 #[u]) (h2 : W.heap[D2]? = some (.deferred (some []))) (h1 : W.heap[D1]? = some (.deferred (some []))) (hne : D1 ≠ D2) (hb : Below w.heap.size w W) (br : w.heap.size ≤ r) (b1 : w.heap.size ≤ D1) (b2 : w.heap.size ≤ D2) :
    (W.setCell ⟨r, 0, none⟩ (.bool true)).heap[D2]? = some (.deferred (some [])) ∧ ((W.setCell ⟨r, 0, none⟩ (.bool true)).putObj D2 (.deferred none)).heap[D1]? = some (.deferred (some [])) ∧
    (((W.setCell ⟨r, 0, none⟩ (.bool true)).putObj D2 (.deferred none)).putObj D1 (.deferred none)).cell? ⟨r, 0, none⟩ = some (.bool true) ∧
    Below w.heap.size w (((W.setCell ⟨r, 0, none⟩ (.bool true)).putObj D2 (.deferred none)).putObj D1 (.deferred none)) := by
  have n1 : r ≠ D1 := fun e => by
    subst e
    rw [show W.heap[r]? = _ from hr] at h1
    cases h1
  have n2 : r ≠ D2 := fun e => by
    subst e
    rw [show W.heap[r]? = _ from hr] at h2
    cases h2
  have k2 : (W.setCell ⟨r, 0, none⟩ (.bool true)).heap[D2]? = some (.deferred (some [])) := (Below.heap_setCell W ⟨r, 0, none⟩ _ D2 (Ne.symm n2)).trans h2
  have k1 : (W.setCell ⟨r, 0, none⟩ (.bool true)).heap[D1]? = some (.deferred (some [])) := (Below.heap_setCell W ⟨r, 0, none⟩ _ D1 (Ne.symm n1)).trans h1
  have k1' : ((W.setCell ⟨r, 0, none⟩ (.bool true)).putObj D2 (.deferred none)).heap[D1]? = some (.deferred (some [])) := (World.putObj_heap_other hne).trans k1
  have h5 := hr.set 0 (.bool true)
  simp at h5
  have h6 : At (((W.setCell ⟨r, 0, none⟩ (.bool true)).putObj D2 (.deferred none)).putObj D1 (.deferred none)) r 4 #[.bool true] := (World.putObj_heap_other n1).trans ((World.putObj_heap_other n2).trans h5)
  exact ⟨k2, k1', h6.cell 0, ((hb.setCell (p := ⟨r, 0, none⟩) br _).trans (belowK_b (w := w) (Nat.le_refl _) _ D2 _ _ b2 k2 rfl rfl)).trans (belowK_b (w := w) (Nat.le_refl _) _ D1 _ _ b1 k1' rfl rfl)⟩

/-- what holds throughout the law -/
def NilI (w : World) (K : Nat) (x : E) (W : World) : Prop := ((At W w.heap.size 23 (ecells x).toArray ∧ At W (w.heap.size + 1) 4 #[.bool false]) ∧ At W K 25 #[.int .i64 0, .int .i64 0]) ∧ Below w.heap.size w W
theorem nilI_own {β : Type} (w : World) (K : Nat) (x : E) (n : Nat) (hn : w.heap.size ≤ n) : OwnFrom n (fun (_ : β) W => NilI w K x W) :=
  (((ownFrom_at n _ _ (fun _ => (ecells x).toArray)).and (ownFrom_at n _ _ (fun _ => #[.bool false]))).and (ownFrom_at n _ _ (fun _ => #[.int .i64 0, .int .i64 0]))).and (ownFrom_low hn (Nat.le_refl _))
theorem NilI.below {w : World} {K : Nat} {x : E} {W W' : World} (h : NilI w K x W) (hb : Below W.heap.size W W') : NilI w K x W' :=
  ⟨⟨⟨h.1.1.1.below hb h.1.1.1.lt, h.1.1.2.below hb h.1.1.2.lt⟩, h.1.2.below hb h.1.2.lt⟩, h.2.trans (hb.mono h.2.size)⟩

set_option maxRecDepth 100000 in
set_option maxHeartbeats 8000000 in
theorem nil_walk (x : E) (w : World) : Calls Try.prog 11 #[.agg #[.string x.id, .int .i64 x.p, .int .i64 x.s, .int .i64 x.v]] w fun e w' => e = .returned (.bool true) ∧ Below w.heap.size w w' := by
  have hB0 : Below w.heap.size w ((w.alloc (.cells #[.string x.id, .int .i64 x.p, .int .i64 x.s, .int .i64 x.v] 23)).alloc (.cells #[.bool false] 4)) := ((Below.refl _ _).alloc (Nat.le_refl _) _).alloc (by simp) _
  have a1 := (At.new w 23 #[.string x.id, .int .i64 x.p, .int .i64 x.s, .int .i64 x.v]).alloc (.cells #[.bool false] 4)
  have a2 := At.new (w.alloc (.cells #[.string x.id, .int .i64 x.p, .int .i64 x.s, .int .i64 x.v] 23)) 4 #[.bool false]
  rw [World.size_alloc] at a2
  refine (callsIn_wide (n := 5)).1 (callsIn_of_wp_marks Try.func11 rfl trivial ?_ rfl)
  simp only [Try.ntmps11, List.size_toArray, List.length_cons, List.length_nil, Nat.reduceAdd, Nat.reduceSub, Array.replicate_succ, Array.replicate_zero, List.push_toArray, List.append_toArray, List.nil_append, List.cons_append]
  refine wpIn_wide.2 ?_
  go_wp2_with fail
  refine (known_any _).mono ?_
  rintro e w1 ⟨rfl, hb1⟩
  have hB1 := bstep hB0 hb1
  have b1 := a1.below hb1 a1.lt
  have b2 := a2.below hb1 a2.lt
  have c0 : w1.cell? ⟨w.heap.size, 0, none⟩ = some (.string x.id) := b1.cell 0
  clear a1 a2 hB0 hb1
  go_wp2_with (go_at_call 23; refine (nil_remove _ _).mono ?_; rintro e w' ⟨rfl, rfl⟩)
  refine (nil_get _ _).mono ?_
  rintro e w2 ⟨rfl, hb2⟩
  have hb3 := hb2.alloc hb2.size (.cells #[.int .i64 0, .int .i64 0] 25)
  have HI : Hid (NilI w w2.heap.size x (w2.alloc (.cells #[.int .i64 0, .int .i64 0] 25))) := Lib.hid ⟨⟨⟨b1.below hb3 b1.lt, b2.below hb3 b2.lt⟩, At.new w2 _ _⟩, bstep hB1 hb3⟩
  have d0 : ∀ o, (w2.alloc o).cell? ⟨w.heap.size, 0, none⟩ = some (.string x.id) := fun o => ((b1.below hb2 b1.lt).alloc o).cell 0
  clear c0 b1 b2 hB1 hb2 hb3
  go_wp2_with (first
    | (go_at_call 31; refine (nil_first _).mono ?_; rintro e w' ⟨rfl, rfl⟩)
    | (go_at_call 32; refine (nil_position _ _).mono ?_; rintro e w' ⟨rfl, rfl⟩)
    | (go_at_call 22; refine (all_any _ _).mono ?_; rintro e w' ⟨rfl, rfl⟩))
  clear d0
  have hIa := HI.out
  have hw3 : (w2.alloc (.cells #[.int .i64 0, .int .i64 0] 25)).heap.size = w2.heap.size + 1 := by simp
  generalize hk : w2.heap.size = K at *
  generalize w2.alloc (.cells #[.int .i64 0, .int .i64 0] 25) = w3 at *
  clear HI
  have q1 := (At.new w3 44 #[.pointer none]).alloc (.cells #[.func (.func 45) #[] #[]] 50)
  have hB4 : Below w3.heap.size w3 ((w3.alloc (.cells #[.pointer none] 44)).alloc (.cells #[.func (.func 45) #[] #[]] 50)) := ((Below.refl _ _).alloc (Nat.le_refl _) _).alloc (by simp) _
  have hI4 := hIa.below hB4
  rw [hw3] at q1
  have hsl : ((w3.alloc (.cells #[.pointer none] 44)).alloc (.cells #[.func (.func 45) #[] #[]] 50)).heap.size = K + 1 + 1 + 1 := by simp [hw3]
  generalize (w3.alloc (.cells #[.pointer none] 44)).alloc (.cells #[.func (.func 45) #[] #[]] 50) = wl at *
  refine (wpIn_wide (n := 5)).1 ?_
  refine wpIn_rangeFunc_ownH (w := wl) rfl (by omega) (gf := 43) (lb := #[.pointer (some ⟨K + 1, 0, none⟩), .pointer (some ⟨K + 1 + 1, 0, none⟩)]) rfl trivial (enters_of Try.func43 (by kernel_rfl) rfl)
    (nil_stops 4 (KpZ (Zs (fun _ => False))) (K + 1) (K + 1 + 1) wl (q1.cell 0)) kpz_t kpz_b (Below.refl _ _) (fun _ => rfl)
    (fun _ W => NilI w K x W) (fun _ _ _ => False) (nilI_own w K x _ hI4.2.size) (fun _ _ _ _ _ h _ _ => h) hI4 (fun _ _ _ => True) (fun _ _ _ _ _ _ h _ _ => h) ?assign ?body ?done ?stop
  case assign =>
    intro lb pre x W K hi hK
    gi_wp2
    exact hK _ _ (KeepsFrom.refl _ _) (KpZ.refl _ _) hi trivial
  case body =>
    intro lb pre x a' W _ _ _ _ hlen
    exact absurd hlen (Nat.not_lt_zero _)
  case stop =>
    intro D c pre W _ h
    exact h.elim
  case done =>
    rintro D ys W hD rfl hI5 hK5
    have hDl := (Array.getElem?_eq_some_iff.1 hK5).1
    have hb6 : Below W.heap.size W ((W.alloc (.cells #[.pointer none] 44)).alloc (.cells #[.func (.func 21) #[] #[]] 50)) := ((Below.refl _ _).alloc (Nat.le_refl _) _).alloc (by simp) _
    have hI6 := hI5.below hb6
    have hK6 := (hb6.block _ hDl).trans hK5
    have q6 := (At.new W 44 #[.pointer none]).alloc (.cells #[.func (.func 21) #[] #[]] 50)
    have hs6 := hb6.size
    have HI6' := hI5.2
    have hDw : wl.heap.size ≤ D := hD
    have hwl := hI4.2.size
    have HI6 := Lib.hid hI6
    have HK6 := Lib.hid hK6
    have Q6 := Lib.hid q6
    clear hI6 hK6 q6 hI5 hK5 hb6 hI4 hB4 hIa q1
    go_wp2_with (go_at_call 20; refine (where_any _ _ _).mono ?_; rintro e w' ⟨rfl, rfl⟩)
    have hI6 := HI6.out
    have hK6 := HK6.out
    have q6 := Q6.out
    clear HI6 HK6 Q6
    generalize (W.alloc (.cells #[.pointer none] 44)).alloc (.cells #[.func (.func 21) #[] #[]] 50) = W6 at *
    refine (wpIn_wide (n := 5)).1 ?_
    refine wpIn_rangeFunc_ownH (w := W6) rfl (by omega) (gf := 43) (lb := #[.pointer (some ⟨W.heap.size, 0, none⟩), .pointer (some ⟨W.heap.size + 1, 0, none⟩)]) rfl trivial (enters_of Try.func43 (by kernel_rfl) rfl)
      (nil_stops 4 (KpZ (Zs (fun _ => False))) W.heap.size (W.heap.size + 1) W6 (q6.cell 0)) kpz_t kpz_b (Below.refl _ _) (fun _ => rfl)
      (fun _ W => NilI w K x W ∧ W.heap[D]? = some (.deferred (some []))) (fun _ _ _ => False) ((nilI_own w K x _ hI6.2.size).and (ownFrom_obj _ (by omega))) (fun _ _ _ _ _ h _ _ => h) ⟨hI6, hK6⟩ (fun _ _ _ => True) (fun _ _ _ _ _ _ h _ _ => h) ?assign2 ?body2 ?done2 ?stop2
    case assign2 =>
      intro lb pre x W K hi hK
      gi_wp2
      exact hK _ _ (KeepsFrom.refl _ _) (KpZ.refl _ _) hi trivial
    case body2 =>
      intro lb pre x a' W _ _ _ _ hlen
      exact absurd hlen (Nat.not_lt_zero _)
    case stop2 =>
      intro D c pre W _ h
      exact h.elim
    case done2 =>
      rintro D2 ys W7 hD2 rfl ⟨hI7, hK7⟩ hL7
      have c0 : W7.cell? ⟨w.heap.size, 0, none⟩ = some (.string x.id) := hI7.1.1.1.cell 0
      have c1 : W7.cell? ⟨w.heap.size, 1, none⟩ = some (.int .i64 x.p) := hI7.1.1.1.cell 1
      have c2 : W7.cell? ⟨w.heap.size, 2, none⟩ = some (.int .i64 x.s) := hI7.1.1.1.cell 2
      have c3 : W7.cell? ⟨w.heap.size, 3, none⟩ = some (.int .i64 x.v) := hI7.1.1.1.cell 3
      have HI7 := Lib.hid hI7
      have HK7 := Lib.hid hK7
      have HL7 := Lib.hid hL7
      clear hI7 hK7 hL7 hI6 hK6 q6
      go_wp2_with fail
      refine (nil_add _ _ _ _ _).mono ?_
      rintro e W8 ⟨rfl, hb8⟩
      have hI8 := HI7.out.below hb8
      have d0 : W8.cell? ⟨w.heap.size, 0, none⟩ = some (.string x.id) := hI8.1.1.1.cell 0
      have d3 : W8.cell? ⟨w.heap.size, 3, none⟩ = some (.int .i64 x.v) := hI8.1.1.1.cell 3
      have y0 : W8.cell? ⟨K, 0, none⟩ = some (.int .i64 0) := hI8.1.2.cell 0
      have y1 : W8.cell? ⟨K, 1, none⟩ = some (.int .i64 0) := hI8.1.2.cell 1
      have HI8 := Lib.hid hI8
      have HK8 := Lib.hid ((hb8.block _ (Array.getElem?_eq_some_iff.1 HK7.out).1).trans HK7.out)
      have HL8 := Lib.hid ((hb8.block _ (Array.getElem?_eq_some_iff.1 HL7.out).1).trans HL7.out)
      clear hI8 hb8 c0 c1 c2 c3
      go_wp2_with (first
        | (go_at_call 33; refine (nil_replace _ _ _).mono ?_; rintro e w' ⟨rfl, rfl⟩)
        | (go_at_call 24; refine (nil_promote _ _ _).mono ?_; rintro e w' ⟨rfl, rfl⟩)
        | (go_at_call 34; refine (nil_len _).mono ?_; rintro e w' ⟨rfl, rfl⟩)
        | (go_at_call 30; refine (nil_clone _).mono ?_; rintro e w' ⟨rfl, rfl⟩))
      refine (known_any _).mono ?_
      rintro e W9 ⟨rfl, hb9⟩
      have hI9 := HI8.out.below hb9
      have f2 : W9.cell? ⟨w.heap.size + 1, 0, none⟩ = some (.bool false) := hI9.1.1.2.cell 0
      have ff2 := hI9.1.1.2.frozen 0
      have HI9 := Lib.hid hI9
      have HK9 := Lib.hid ((hb9.block _ (Array.getElem?_eq_some_iff.1 HK8.out).1).trans HK8.out)
      have HL9 := Lib.hid ((hb9.block _ (Array.getElem?_eq_some_iff.1 HL8.out).1).trans HL8.out)
      clear hI9 hb9 d0 d3 y0 y1
      go_wp2_with fail
      obtain ⟨g1, g2, rf, hbf⟩ := leave2 HI9.out.1.1.2 HL9.out HK9.out (by omega) HI9.out.2 (by omega) (by have := HI6'.size; omega) (by have := HI6'.size; omega)
      refine ⟨by simp, .inl ⟨_, _, rfl, run_takeDeferred g1, ?_⟩⟩
      refine ⟨by simp, .inl ⟨_, _, rfl, run_takeDeferred g2, ?_⟩⟩
      exact ⟨.bool true, by simp [results, Try.results11, go_sem, rf], rfl, hbf⟩
theorem queueNil_walk (i : ByteArray) (hi : i.size ≤ maxLen) (p : Int) (wp : (Lit.int .i64 p).wf = true) (s : Int) (ws : (Lit.int .i64 s).wf = true) (v : Int) (wv : (Lit.int .i64 v).wf = true) (w : World) :
    Calls Try.prog 11 #[.agg #[.string i, .int .i64 p, .int .i64 s, .int .i64 v]] w fun e w' => e = .returned (.bool true) ∧ Below w.heap.size w w' := nil_walk ⟨i, p, s, v⟩ w
end Go.Proofs.Ytmimfhjmhlmibaa
