/- The walks of Get, Position, First and Len over the queue's predicate. -/
import Derived.Test.YtmimfhjmhlmibaaRepl
namespace Go.Proofs.Ytmimfhjmhlmibaa
open Go.RowKit Go.MapKept Go.ChangeMaps
set_option linter.unusedVariables false
attribute [local go_sem ↓] Go.wp_at_zero Go.wp_at_succ

set_option maxRecDepth 100000 in
set_option maxHeartbeats 4000000 in
theorem get_absent (q g m1 m2 : Nat) (l : List E) (i : ByteArray) (w : World) (h : Qu w q g m1 m2 l) (hl : l.length ≤ 60000) (hi : ∀ e ∈ l, e.id ≠ i) :
    Calls Try.prog 29 #[.pointer (some ⟨q, 0, none⟩), .string i] w fun e w' => e = .returned (.tuple #[.int .i64 0, .agg #[.int .i64 0, .int .i64 0], .bool false]) ∧ Below w.heap.size w w' := by
  have hB := (Below.refl w.heap.size w).alloc (Nat.le_refl _) (.cells #[.int .i64 0, .int .i64 0] 25)
  have hc := Lib.hid (index_absent (h.below hB) i (by omega) hi)
  have hR := At.new w 25 #[.int .i64 0, .int .i64 0]
  have HR := Lib.hid hR
  have HB := Lib.hid hB
  clear h hi hR hB
  go_enter Try.func29, Try.ntmps29
  go_wp2_with fail
  refine hc.out.mono ?_
  rintro e w2 ⟨rfl, hb⟩
  have hR2 := HR.out.below hb HR.out.lt
  have r0 : w2.cell? ⟨w.heap.size, 0, none⟩ = some (.int .i64 0) := hR2.cell 0
  have r1 : w2.cell? ⟨w.heap.size, 1, none⟩ = some (.int .i64 0) := hR2.cell 1
  have f0 := hR2.frozen 0
  have f1 := hR2.frozen 1
  have hb2 := bstep HB.out hb
  have hR3 := (hR2.set 0 (.int .i64 0)).set 1 (.int .i64 0)
  simp at hR3
  have hb3 : Below w.heap.size w ((w2.setCell ⟨w.heap.size, 0, none⟩ (.int .i64 0)).setCell ⟨w.heap.size, 1, none⟩ (.int .i64 0)) := (hb2.setCell (p := ⟨w.heap.size, 0, none⟩) (Nat.le_refl _) _).setCell (p := ⟨w.heap.size, 1, none⟩) (Nat.le_refl _) _
  have HR3 := Lib.hid hR3
  have HB3 := Lib.hid hb3
  clear hR3 hb3 hb2 hb
  go_wp2_with fail
  have hr3 := HR3.out
  have hb3 := HB3.out
  generalize (w2.setCell ⟨w.heap.size, 0, none⟩ (.int .i64 0)).setCell ⟨w.heap.size, 1, none⟩ (.int .i64 0) = w3 at *
  have s0 : w3.cell? ⟨w.heap.size, 0, none⟩ = some (.int .i64 0) := hr3.cell 0
  have s1 : w3.cell? ⟨w.heap.size, 1, none⟩ = some (.int .i64 0) := hr3.cell 1
  exact bodyPost_ret (v := .tuple #[.int .i64 0, .agg #[.int .i64 0, .int .i64 0], .bool false]) (by simp [results, Try.results29, go_sem, s0, s1]) rfl ⟨rfl, hb3⟩

set_option maxRecDepth 100000 in
set_option maxHeartbeats 4000000 in
theorem get_present (q g m1 m2 k : Nat) (l : List E) (i : ByteArray) (x : E) (w : World) (h : Qu w q g m1 m2 l) (hl : l.length ≤ 60000) (hk : k < l.length) (hx : x = l[k]) (hi : x.id = i) :
    Calls Try.prog 29 #[.pointer (some ⟨q, 0, none⟩), .string i] w fun e w' => e = .returned (.tuple #[.int .i64 x.v, .agg #[.int .i64 x.p, .int .i64 x.s], .bool true]) ∧ Below w.heap.size w w' := by
  have hB := (Below.refl w.heap.size w).alloc (Nat.le_refl _) (.cells #[.int .i64 0, .int .i64 0] 25)
  have hc := Lib.hid (index_at (h.below hB) hk hx hi (by omega))
  have H := Lib.hid h
  have hR := At.new w 25 #[.int .i64 0, .int .i64 0]
  have HR := Lib.hid hR
  have HB := Lib.hid hB
  have HX := Lib.hid hx
  have b0 : (0 : Int) ≤ (k : Int) := by omega
  have b1 : (k : Int) < (l.length : Int) := by omega
  clear h hi hR hB hx
  go_enter Try.func29, Try.ntmps29
  go_wp2_with fail
  refine hc.out.mono ?_
  rintro e w2 ⟨rfl, hb⟩
  have hR2 := HR.out.below hb HR.out.lt
  have r0 : w2.cell? ⟨w.heap.size, 0, none⟩ = some (.int .i64 0) := hR2.cell 0
  have r1 : w2.cell? ⟨w.heap.size, 1, none⟩ = some (.int .i64 0) := hR2.cell 1
  have f0 := hR2.frozen 0
  have f1 := hR2.frozen 1
  have hb2 := bstep HB.out hb
  have h2 := H.out.below hb2
  obtain ⟨A, cap, hA, hrw, hcap⟩ := h2.body
  obtain rfl := hrw.addr (by omega)
  have hgw := H.out.row
  have hqw := H.out.qlt
  have q0 := hA.cell 0
  simp at q0
  obtain ⟨c0, c1, c2, c3⟩ : _ ∧ _ ∧ _ ∧ _ := hrw.reads k hk
  rw [← HX.out] at c0 c1 c2 c3
  have hne1 : w.heap.size ≠ q := by omega
  have hne2 : w.heap.size ≠ g := by omega
  have hgl : g < w2.heap.size := h2.row
  have hR3 := ((hR2.set 0 (.int .i64 x.p)).set 1 (.int .i64 x.s)).drew
  simp at hR3
  have hb3 : Below w.heap.size w ((w2.setCell ⟨w.heap.size, 0, none⟩ (.int .i64 x.p)).setCell ⟨w.heap.size, 1, none⟩ (.int .i64 x.s)).drew := ((hb2.setCell (p := ⟨w.heap.size, 0, none⟩) (Nat.le_refl _) _).setCell (p := ⟨w.heap.size, 1, none⟩) (Nat.le_refl _) _).drew
  have s2 := ((hA.far (p := ⟨w.heap.size, 0, none⟩) (Ne.symm hne1) (.int .i64 x.p)).far (p := ⟨w.heap.size, 1, none⟩) (Ne.symm hne1) (.int .i64 x.s)).drew
  have hkk : Keep (· = w.heap.size) w2 ((w2.setCell ⟨w.heap.size, 0, none⟩ (.int .i64 x.p)).setCell ⟨w.heap.size, 1, none⟩ (.int .i64 x.s)).drew := (Keep.cells1 w.heap.size [.int .i64 x.p, .int .i64 x.s] 0 _).trans (Keep.drew _ _)
  obtain ⟨n0, n1, n2, n3⟩ : _ ∧ _ ∧ _ ∧ _ := (hrw.keep hkk (Ne.symm hne2)).reads k hk
  rw [← HX.out] at n0 n1 n2 n3
  have nq := s2.cell 0
  simp only [List.getElem?_toArray, List.getElem?_cons_zero] at nq
  have HR3 := Lib.hid hR3
  have HB3 := Lib.hid hb3
  clear hR3 hb3 hb2 hb s2 hkk hA hrw h2
  go_wp2_with fail
  go_region_held3 (fun w' => w'.cell? ⟨q, 0, none⟩ = some (.slice (some ⟨g, 0, none⟩) l.length cap) ∧ w'.cell? ⟨g, k * 4 + 1, none⟩ = some (.int .i64 x.p) ∧ w'.cell? ⟨g, k * 4 + 2, none⟩ = some (.int .i64 x.s) ∧ w'.cell? ⟨g, k * 4 + 3, none⟩ = some (.int .i64 x.v)) (first | exact ⟨q0, c1, c2, c3⟩ | exact ⟨nq, n1, n2, n3⟩) (fail)
  go_wp2_with fail
  have hr3 := HR3.out
  have hb3 := HB3.out
  generalize ((w2.setCell ⟨w.heap.size, 0, none⟩ (.int .i64 x.p)).setCell ⟨w.heap.size, 1, none⟩ (.int .i64 x.s)).drew = w3 at *
  have s0 : w3.cell? ⟨w.heap.size, 0, none⟩ = some (.int .i64 x.p) := hr3.cell 0
  have s1 : w3.cell? ⟨w.heap.size, 1, none⟩ = some (.int .i64 x.s) := hr3.cell 1
  exact bodyPost_ret (v := .tuple #[.int .i64 x.v, .agg #[.int .i64 x.p, .int .i64 x.s], .bool true]) (by simp [results, Try.results29, go_sem, s0, s1]) rfl ⟨rfl, hb3⟩

theorem indexOf_present {l : List E} (hg : Good l) {k : Nat} (hk : k < l.length) : indexOf l l[k].id = .returned (.tuple #[.int .i64 (k : Nat), .int .i64 0]) := by
  unfold indexOf
  rw [find_present hg k hk]
  dsimp only
  rw [lb_own hg.sorted k hk]
theorem position_present (q g m1 m2 k : Nat) (l : List E) (i : ByteArray) (x : E) (w : World) (h : Qu w q g m1 m2 l) (hl : l.length ≤ 60000) (hk : k < l.length) (hx : x = l[k]) (hi : x.id = i) :
    Calls Try.prog 32 #[.pointer (some ⟨q, 0, none⟩), .string i] w fun e w' => e = .returned (.tuple #[.int .i64 (k : Nat), .int .i64 0]) ∧ Below w.heap.size w w' := by
  obtain ⟨A, cap, hA, hr, hc⟩ := h.body
  refine (position_any q g cap m1 m2 A l i w h.good.sorted hr.reads h.row hr.addr (by omega) hA h.keys).mono ?_
  rintro e w' ⟨rfl, hb⟩
  refine ⟨?_, hb⟩
  rw [← hi, hx, indexOf_present h.good hk]
theorem len_qu (q g m1 m2 : Nat) (l : List E) (w : World) (h : Qu w q g m1 m2 l) :
    Calls Try.prog 34 #[.pointer (some ⟨q, 0, none⟩)] w fun e w' => e = .returned (.int .i64 (l.length : Nat)) ∧ w = w' := by
  obtain ⟨A, cap, hA, hr, hc⟩ := h.body
  exact (len_any q cap l.length _ _ A w hA).mono fun e w' ⟨h1, h2⟩ => ⟨h1, h2.symm⟩
theorem first_qu (q g m1 m2 : Nat) (l : List E) (w : World) (h : Qu w q g m1 m2 l) :
    Calls Try.prog 31 #[.pointer (some ⟨q, 0, none⟩)] w fun e w' => e = firstOf l ∧ Below w.heap.size w w' := by
  obtain ⟨A, cap, hA, hr, hc⟩ := h.body
  exact first_any q g cap l _ _ A w hr.reads h.row hr.addr hA
/-- a new queue -/
def Fresh (w : World) (e : Ending) (w' : World) : Prop := ∃ q g m1 m2 : Nat, e = .returned (.pointer (some ⟨q, 0, none⟩)) ∧ Qu w' q g m1 m2 [] ∧ (∀ r, ZQ q g m1 m2 r → w.heap.size ≤ r) ∧ Below w.heap.size w w'
theorem new_qu (w : World) : Calls Try.prog 26 #[] w (Fresh w) := by
  refine (new_any w).mono ?_
  rintro e w' ⟨q, m1, m2, rfl, hb, h1, h2, h3, h4, h5, h6, hA, hk, hu⟩
  refine ⟨q, q, m1, m2, rfl, ⟨⟨none, 0, hA, .inl ⟨rfl, rfl, rfl⟩, by omega⟩, hk, hu, h6, hA.lt, Good.nil⟩, ?_, hb⟩
  rintro r (rfl | rfl | rfl | rfl) <;> assumption
end Go.Proofs.Ytmimfhjmhlmibaa
