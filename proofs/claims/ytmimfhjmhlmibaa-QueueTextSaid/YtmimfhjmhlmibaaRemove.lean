/- The walk of the queue's own remove. -/
import Derived.Test.YtmimfhjmhlmibaaDelete
namespace Go.Proofs.Ytmimfhjmhlmibaa
open Go.RowKit Go.MapKept Go.ChangeMaps
set_option linter.unusedVariables false
attribute [local go_sem ↓] Go.wp_at_zero Go.wp_at_succ

theorem step_delete_run {P : Program} {ops : Array Oper} {o : Oper} {a : Act} {w : World} {K : Act → World → Prop} {Q : Exit → Act → World → Prop} {E : Prop}
    (hg : o.guard = none) (d x : Operand) (dT sT : TypeId) (hop : o.op = Op.call { callee := Callee.builtin Builtin.delete, args := #[d, x], argTypes := #[dT, sT] })
    (v u : Value) (hd : a.eval d = v) (hx : a.eval x = u) {v' : Value} {w' : World} (hr : (Builtin.delete_ #[dT, sT] o.type #[v, u]).run P w = .ok v' w') (hK : K (a.put o.dst v') w') :
    if Region.wanted o (yielded ops a.tmps) = true then Oper.wp P o a w K Q else E := by
  have hw : Region.wanted o (yielded ops a.tmps) = true := by simp [Region.wanted, hg]
  rw [if_pos hw]
  unfold Oper.wp
  simp [execOp, hop, resolve, invoke, builtin, hd, hx, hr, Result.andThen]
  exact hK

/-- what remove leaves -/
def Removed (q g m1 m2 i : Nat) (l : List E) (x : E) (w : World) (e : Ending) (w' : World) : Prop :=
  e = .returned (.agg #[.string x.id, .int .i64 x.p, .int .i64 x.s, .int .i64 x.v]) ∧ Qu w' q g m1 m2 (remP i l) ∧ Keep (ZQ q g m1 m2) w w'

set_option maxRecDepth 100000 in
set_option maxHeartbeats 4000000 in
theorem remove_any (q g m1 m2 i : Nat) (l : List E) (x : E) (w : World) (h : Qu w q g m1 m2 l) (hl : l.length ≤ 99999) (hi : i < l.length) (hx : l[i] = x) :
    Calls Try.prog 47 #[.pointer (some ⟨q, 0, none⟩), .int .i64 (i : Nat)] w (Removed q g m1 m2 i l x w) := by
  have hqw := h.qlt
  have hgw := h.row
  obtain ⟨A, cap, hA, hrw, hcap⟩ := h.body
  have H := Lib.hid h
  obtain rfl := hrw.addr (by omega)
  have hrow : RowAt w g cap l := by
    rcases hrw with ⟨a, _⟩ | ⟨_, a⟩
    · cases a
    · exact a
  have hB1 : Below w.heap.size w (w.alloc (.cells #[.string ⟨#[]⟩, .int .i64 0, .int .i64 0, .int .i64 0] 88)) := (Below.refl _ _).alloc (Nat.le_refl _) _
  have hA1 := hA.below hB1 hA.lt
  obtain ⟨c0, c1, c2, c3⟩ : _ ∧ _ ∧ _ ∧ _ := (hrow.reads.below hB1 hgw) i hi
  rw [hx] at c0 c1 c2 c3
  have q0 := hA1.cell 0
  simp at q0
  have HX := Lib.hid hx
  have HROW := Lib.hid hrow
  have b0 : (0 : Int) ≤ (i : Int) := by omega
  have b1 : (i : Int) < (l.length : Int) := by omega
  have HA := Lib.hid hA
  clear h hA hrw hrow hA1 hx
  go_enter Try.func47, Try.ntmps47
  go_wp2_with fail
  have hR := (At.new w 88 #[.string ⟨#[]⟩, .int .i64 0, .int .i64 0, .int .i64 0]).alloc (.cells #[.string x.id, .int .i64 x.p, .int .i64 x.s, .int .i64 x.v] 88)
  have hE := At.new (w.alloc (.cells #[.string ⟨#[]⟩, .int .i64 0, .int .i64 0, .int .i64 0] 88)) 88 #[.string x.id, .int .i64 x.p, .int .i64 x.s, .int .i64 x.v]
  have hsz : (w.alloc (.cells #[.string ⟨#[]⟩, .int .i64 0, .int .i64 0, .int .i64 0] 88)).heap.size = w.heap.size + 1 := by simp
  rw [hsz] at hE
  have hB2 := hB1.alloc hB1.size (.cells #[.string x.id, .int .i64 x.p, .int .i64 x.s, .int .i64 x.v] 88)
  generalize (w.alloc (.cells #[.string ⟨#[]⟩, .int .i64 0, .int .i64 0, .int .i64 0] 88)).alloc (.cells #[.string x.id, .int .i64 x.p, .int .i64 x.s, .int .i64 x.v] 88) = w2 at *
  have h2 := H.out.below hB2
  have hA2 := HA.out.below hB2 hqw
  have hrow2 : RowAt w2 g cap l := HROW.out.keep (Keep.of (Z := fun _ => False) hB2) id
  have hqg : q ≠ g := by
    obtain ⟨pad, a, _⟩ := HROW.out
    exact HA.out.ne a (by decide)
  have hm1 : q ≠ m1 := hA2.ne_map h2.keys
  have hm2 : q ≠ m2 := hA2.ne_map h2.used
  have hg1 : g ≠ m1 := hrow2.ne_map h2.keys
  have hg2 : g ≠ m2 := hrow2.ne_map h2.used
  have hE1 : w.heap.size + 1 ≠ m1 := hE.ne_map h2.keys
  have hE2 : w.heap.size + 1 ≠ m2 := hE.ne_map h2.used
  have hR1 : w.heap.size ≠ m1 := hR.ne_map h2.keys
  have hR2 : w.heap.size ≠ m2 := hR.ne_map h2.used
  have htwo := h2.two
  refine (delete_any g cap i l w2 hi (by omega) hcap hrow2).mono ?_
  rintro e w3 ⟨rfl, hrow3, hk3⟩
  -- the store
  have hA3 := hA2.keep hk3 hqg
  have q3 := hA3.cell 0
  simp at q3
  have f3 := hA3.frozen 0
  have hA4 := hA3.set 0 (.slice (some ⟨g, 0, none⟩) (l.length - 1) cap)
  simp at hA4
  have k4 : Keep (· = q) w3 (w3.setCell ⟨q, 0, none⟩ (.slice (some ⟨g, 0, none⟩) (l.length - 1) cap)) := Keep.setCell (Z := (· = q)) rfl _ _
  have hE4 := (hE.keep hk3 (fun h => by omega)).keep k4 (fun h => by omega)
  have hR4 := (hR.keep hk3 (fun h => by omega)).keep k4 (fun h => by omega)
  have hrow4 := hrow3.keep k4 (Ne.symm hqg)
  have hkey4 := (h2.keys.keep hk3 (Ne.symm hg1)).keep k4 (Ne.symm hm1)
  have huse4 := (h2.used.keep hk3 (Ne.symm hg2)).keep k4 (Ne.symm hm2)
  obtain ⟨w4, hw4⟩ : ∃ w4, w3.setCell ⟨q, 0, none⟩ (.slice (some ⟨g, 0, none⟩) (l.length - 1) cap) = w4 := ⟨_, rfl⟩
  rw [hw4] at hA4 k4 hE4 hR4 hrow4 hkey4 huse4
  have HW4 := Lib.hid hw4
  have hkey4' : Mp .string w4.drew m1 (keysOf l) := hkey4.held rfl
  obtain ⟨o1, r1, p1⟩ := hkey4'.drop (P := Try.prog) (k := .string x.id) (ty := 0) und_keys und_string trivial
  obtain ⟨W5, hW5⟩ : ∃ W5, setBlock w4.drew m1 o1 = W5 := ⟨_, rfl⟩
  have k5 : Keep (· = m1) w4 W5 := by rw [← hW5]; exact (Keep.drew _ _).trans (Keep.setBlock _ _ _)
  rw [hW5] at r1 p1
  have huse5 : Mp (.int .i64) W5.drew m2 (usedOf l) := (huse4.keep k5 (Ne.symm htwo)).held rfl
  obtain ⟨o2, r2, p2⟩ := huse5.drop (P := Try.prog) (k := .int .i64 x.s) (ty := 0) und_used und_int rfl
  obtain ⟨W6, hW6⟩ : ∃ W6, setBlock W5.drew m2 o2 = W6 := ⟨_, rfl⟩
  have k6 : Keep (· = m2) W5 W6 := by rw [← hW6]; exact (Keep.drew _ _).trans (Keep.setBlock _ _ _)
  rw [hW6] at r2 p2
  have hE5 := hE4.keep k5 hE1
  have hE6 := hE5.keep k6 hE2
  have hA5 := hA4.keep k5 hm1
  have hA6 := hA5.keep k6 hm2
  have hR6 := (hR4.keep k5 hR1).keep k6 hR2
  have e1 := hE4.cell 0
  have e2 := hE5.cell 0
  have z4 : w4.cell? ⟨q, 1, none⟩ = some (.map (some m1)) ∧ w4.cell? ⟨w.heap.size + 1, 0, none⟩ = some (.string x.id) := ⟨hA4.cell 1, hE4.cell 0⟩
  have z5 : W5.cell? ⟨q, 1, none⟩ = some (.map (some m1)) ∧ W5.cell? ⟨w.heap.size + 1, 0, none⟩ = some (.string x.id) := ⟨hA5.cell 1, hE5.cell 0⟩
  have y5 : W5.cell? ⟨q, 2, none⟩ = some (.map (some m2)) ∧ W5.cell? ⟨w.heap.size + 1, 2, none⟩ = some (.int .i64 x.s) := ⟨hA5.cell 2, hE5.cell 2⟩
  have y6 : W6.cell? ⟨q, 2, none⟩ = some (.map (some m2)) ∧ W6.cell? ⟨w.heap.size + 1, 2, none⟩ = some (.int .i64 x.s) := ⟨hA6.cell 2, hE6.cell 2⟩
  have d0 : W6.cell? ⟨w.heap.size + 1, 0, none⟩ = some (.string x.id) := hE6.cell 0
  have d1 : W6.cell? ⟨w.heap.size + 1, 1, none⟩ = some (.int .i64 x.p) := hE6.cell 1
  have d2 : W6.cell? ⟨w.heap.size + 1, 2, none⟩ = some (.int .i64 x.s) := hE6.cell 2
  have d3 : W6.cell? ⟨w.heap.size + 1, 3, none⟩ = some (.int .i64 x.v) := hE6.cell 3
  have g0 : W6.cell? ⟨w.heap.size, 0, none⟩ = some (.string ⟨#[]⟩) := hR6.cell 0
  have g1 : W6.cell? ⟨w.heap.size, 1, none⟩ = some (.int .i64 0) := hR6.cell 1
  have g2 : W6.cell? ⟨w.heap.size, 2, none⟩ = some (.int .i64 0) := hR6.cell 2
  have g3 : W6.cell? ⟨w.heap.size, 3, none⟩ = some (.int .i64 0) := hR6.cell 3
  have gf0 := hR6.frozen 0
  have gf1 := hR6.frozen 1
  have gf2 := hR6.frozen 2
  have gf3 := hR6.frozen 3
  have R1 := Lib.hid r1
  have R2 := Lib.hid r2
  have Z4 := Lib.hid z4
  have Z5 := Lib.hid z5
  have Y5 := Lib.hid y5
  have Y6 := Lib.hid y6
  clear r1 r2 z4 z5 y5 y6 hW5 hW6 hw4 e1 e2
  go_wp2_with fail
  rw [HW4.out]
  go_region_held3 (fun w' => w'.cell? ⟨q, 1, none⟩ = some (.map (some m1)) ∧ w'.cell? ⟨w.heap.size + 1, 0, none⟩ = some (.string x.id)) (first | exact Z4.out | exact Z5.out)
    (refine step_delete_run rfl _ _ 71 9 rfl _ _ (by rfl) (by rfl) R1.out ?_)
  go_wp2_with fail
  go_region_held3 (fun w' => w'.cell? ⟨q, 2, none⟩ = some (.map (some m2)) ∧ w'.cell? ⟨w.heap.size + 1, 2, none⟩ = some (.int .i64 x.s)) (first | exact Y5.out | exact Y6.out)
    (refine step_delete_run rfl _ _ 72 3 rfl _ _ (by rfl) (by rfl) R2.out ?_)
  go_wp2_with fail
  have hRf := (((hR6.set 0 (.string x.id)).set 1 (.int .i64 x.p)).set 2 (.int .i64 x.s)).set 3 (.int .i64 x.v)
  simp at hRf
  have k7 : Keep (· = w.heap.size) W6 ((((W6.setCell ⟨w.heap.size, 0, none⟩ (.string x.id)).setCell ⟨w.heap.size, 1, none⟩ (.int .i64 x.p)).setCell ⟨w.heap.size, 2, none⟩ (.int .i64 x.s)).setCell ⟨w.heap.size, 3, none⟩ (.int .i64 x.v)) := Keep.cells1 w.heap.size (ecells x) 0 W6
  generalize (((W6.setCell ⟨w.heap.size, 0, none⟩ (.string x.id)).setCell ⟨w.heap.size, 1, none⟩ (.int .i64 x.p)).setCell ⟨w.heap.size, 2, none⟩ (.int .i64 x.s)).setCell ⟨w.heap.size, 3, none⟩ (.int .i64 x.v) = Wf at *
  have rf0 : Wf.cell? ⟨w.heap.size, 0, none⟩ = some (.string x.id) := hRf.cell 0
  have rf1 : Wf.cell? ⟨w.heap.size, 1, none⟩ = some (.int .i64 x.p) := hRf.cell 1
  have rf2 : Wf.cell? ⟨w.heap.size, 2, none⟩ = some (.int .i64 x.s) := hRf.cell 2
  have rf3 : Wf.cell? ⟨w.heap.size, 3, none⟩ = some (.int .i64 x.v) := hRf.cell 3
  have kq := keysOf_rem H.out.good hi
  have uq := usedOf_rem H.out.good hi
  rw [HX.out] at kq uq
  rw [kq] at p1
  rw [uq] at p2
  have kA : Keep (ZQ q g m1 m2) w Wf := by
    have a1 := (((((Keep.of (Z := ZQ q g m1 m2) hB2).trans (hk3.mono (fun r _ h => .inr (.inl h)))).trans (k4.mono (fun r _ h => .inl h))).trans (k5.mono (fun r _ h => .inr (.inr (.inl h))))).trans (k6.mono (fun r _ h => .inr (.inr (.inr h)))))
    exact a1.then k7 (fun r hr h => absurd hr (by omega))
  have hq : Qu Wf q g m1 m2 (remP i l) :=
    ⟨⟨some ⟨g, 0, none⟩, cap, by rw [length_remP hi]; exact hA6.keep k7 (fun h => by omega), .inr ⟨rfl, ((hrow4.keep k5 hg1).keep k6 hg2).keep k7 (fun h => by omega)⟩, hcap⟩, (p1.keep k6 htwo).keep k7 (fun h => hR1 h.symm), p2.keep k7 (fun h => hR2 h.symm), htwo, Nat.lt_of_lt_of_le hgw kA.size, H.out.good.rem i⟩
  exact bodyPost_ret (v := .agg #[.string x.id, .int .i64 x.p, .int .i64 x.s, .int .i64 x.v]) (by simp [results, Try.results47, go_sem, rf0, rf1, rf2, rf3]) rfl ⟨rfl, hq, kA⟩
end Go.Proofs.Ytmimfhjmhlmibaa
