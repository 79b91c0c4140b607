/- The argument of a law: a slice of operations, opened. -/
import Derived.Test.YtmimfhjmhlmibaaBuild
import Derived.OpenShut
import Derived.Deep.Slices
import Derived.Deep.Fields
import Derived.ChangeSame
import Derived.Lib.SmallJoins
namespace Go.Proofs.Ytmimfhjmhlmibaa
open Go.ChangeShapes Go.WideShapes Go.ChangeAt Go.RowKit Go.Joins Go.Deep
set_option linter.unusedVariables false

theorem pick_list {α : Type} {P : Nat → α → Prop} : ∀ n : Nat, (∀ i, i < n → ∃ o, P i o) → ∃ os : List α, os.length = n ∧ ∀ (i : Nat) (h : i < os.length), P i os[i]
  | 0, _ => ⟨[], rfl, fun i h => absurd h (Nat.not_lt_zero _)⟩
  | n + 1, h => by
    obtain ⟨os, h1, h2⟩ := pick_list n (fun i hi => h i (by omega))
    obtain ⟨o, ho⟩ := h n (by omega)
    refine ⟨os ++ [o], by simp [h1], fun i hi => ?_⟩
    by_cases hin : i < os.length
    · rw [List.getElem_append_left hin]; exact h2 i hin
    · have e : i = n := by simp at hi; omega
      subst e
      have : (os ++ [o])[i] = o := by rw [List.getElem_append_right (by omega)]; simp [h1]
      rw [this]; exact ho
theorem cells_op : Try.prog.cellsOf 35 = 5 := by kernel_rfl
theorem cells_x : Try.prog.cellsOf 23 = 4 := by kernel_rfl
theorem cells_s : Try.prog.cellsOf 9 = 1 := by kernel_rfl
theorem cells_i : Try.prog.cellsOf 3 = 1 := by kernel_rfl
theorem cells_u : Try.prog.cellsOf 5 = 1 := by kernel_rfl

theorem open_op {H : Type} {enc : TypeId × Value → H} {w : World} {base : Nat} {spare : Nat → Bool} {held : Bool} {n : Nat} {c0 c1 c2 c3 c4 : Value} {y : DataW H × List MemPlace}
    (h : DataW.trod enc Try.prog w base spare held n 35 [c0, c1, c2, c3, c4] = some y) :
    ∃ (k : Int) (x : E), c0 = .int .u8 k ∧ (Lit.int .u8 k).wf = true ∧ c1 = .string x.id ∧ c2 = .int .i64 x.p ∧ c3 = .int .i64 x.s ∧ c4 = .int .i64 x.v ∧ x.id.size ≤ maxLen ∧ (Lit.int .i64 x.p).wf = true ∧ (Lit.int .i64 x.s).wf = true ∧ (Lit.int .i64 x.v).wf = true := by
  obtain ⟨y0, y1, m, -, -, h0, h1⟩ := trod_struct2 Try.underlying35 h
  obtain ⟨z0, z1, z2, z3, m', -, -, g0, g1, g2, g3⟩ := trod_struct4 Try.underlying23 h1
  obtain ⟨k, e0, -, w0⟩ := DataW.trod_int Try.underlying5 h0
  obtain ⟨i, e1, -, w1⟩ := DataW.trod_string Try.underlying9 g0
  obtain ⟨p, e2, -, w2⟩ := DataW.trod_int Try.underlying3 g1
  obtain ⟨s, e3, -, w3⟩ := DataW.trod_int Try.underlying3 g2
  obtain ⟨v, e4, -, w4⟩ := DataW.trod_int Try.underlying3 g3
  simp [cells_u, cells_x, cells_s, cells_i] at e0 e1 e2 e3 e4
  exact ⟨k, ⟨i, p, s, v⟩, e0, w0, e1, e2, e3, e4, w1, w2, w3, w4⟩
set_option maxRecDepth 100000 in
theorem open_ops {H : Type} {enc : TypeId × Value → H} {w : World} {r : Reach} {b0 : Nat} {spare : Nat → Bool} {held : Bool} {v : Value} {d : DataW H} {p : List MemPlace}
    (hv : Value.okWide Try.prog w r b0 30 v) (h : DataW.Trod enc Try.prog w 0 spare held 30 v d p) : ∃ os, OL w v os := by
  obtain ⟨a0, len, cap, rfl⟩ := okWide_slice Try.underlying30 hv
  obtain ⟨fuel, hf⟩ := h
  rcases open_slice Try.underlying30 hf with ⟨h1, _⟩ | ⟨a, len', cap', m, n, D, Pl, h1, _, hl, hm, hmm, _, hi⟩
  · simp [Value.cells] at h1
    obtain ⟨rfl, rfl, rfl⟩ := h1
    exact ⟨[], .inl ⟨none, 0, rfl, rfl⟩⟩
  · simp [Value.cells] at h1
    obtain ⟨rfl, rfl, rfl⟩ := h1
    have hlm : len ≤ m := by rw [hmm]; split <;> omega
    by_cases hz : len = 0
    · subst hz
      exact ⟨[], .inl ⟨_, _, rfl, rfl⟩⟩
    · have each : ∀ i, i < len → ∃ o : Int × E, (0 ≤ o.1 ∧ o.1 ≤ 255) ∧ w.cell? (a.add (i * 5)) = some (.int .u8 o.1) ∧ w.cell? ((a.add (i * 5)).add 1) = some (.string o.2.id) ∧ w.cell? ((a.add (i * 5)).add 2) = some (.int .i64 o.2.p) ∧ w.cell? ((a.add (i * 5)).add 3) = some (.int .i64 o.2.s) ∧ w.cell? ((a.add (i * 5)).add 4) = some (.int .i64 o.2.v) := by
        intro i hil
        obtain ⟨cs', hc, ht⟩ := hi i (by omega)
        rw [cells_op] at hc
        obtain ⟨_, hcl, hat⟩ := World.cells?_some hc
        match cs', hcl, ht, hat with
        | [c0, c1, c2, c3, c4], _, ht, hat =>
          obtain ⟨k, x, rfl, w0, rfl, rfl, rfl, rfl, _⟩ := open_op ht
          refine ⟨(k, x), bounds_u8 w0, ?_, hat 1 (by omega), hat 2 (by omega), hat 3 (by omega), hat 4 (by omega)⟩
          have := hat 0 (by omega)
          rwa [show (a.add (i * 5)).add 0 = a.add (i * 5) from rfl] at this
      obtain ⟨os, ho, hP⟩ := pick_list len each
      obtain ⟨b, off, spot⟩ := a
      have hspot : spot = none := by
        have := (hP 0 (by omega)).2.1
        rw [Nat.zero_mul] at this
        exact World.cell?_spot this
      subst hspot
      have hb : b < w.heap.size := by
        have := (hP 0 (by omega)).2.1
        rw [Nat.zero_mul] at this
        exact World.block_lt_of_cell? w _ this
      subst ho
      refine ⟨os, .inr ⟨b, off, cap, rfl, hb, by unfold maxLen at hm; omega, fun k hk => ?_⟩⟩
      obtain ⟨⟨h0, h1⟩, c0, c1, c2, c3, c4⟩ := hP k hk
      simp only [Addr.add_lit] at c0 c1 c2 c3 c4
      exact ⟨h0, h1, c0, c1, c2, c3, c4⟩
set_option maxRecDepth 100000 in
theorem open_op_agg {H : Type} {enc : TypeId × Value → H} {w : World} {r : Reach} {b0 : Nat} {spare : Nat → Bool} {held : Bool} {v : Value} {d : DataW H} {p : List MemPlace}
    (hv : Value.okWide Try.prog w r b0 35 v) (h : DataW.Trod enc Try.prog w 0 spare held 35 v d p) :
    ∃ (k : Int) (x : E), v = .agg #[.int .u8 k, .string x.id, .int .i64 x.p, .int .i64 x.s, .int .i64 x.v] ∧ (0 ≤ k ∧ k ≤ 255) := by
  obtain ⟨cs, rfl, hsz⟩ := okWide_struct Try.underlying35 hv
  rw [cells_op] at hsz
  obtain ⟨fuel, hf⟩ := h
  obtain ⟨l⟩ := cs
  match l, hsz, hf with
  | [c0, c1, c2, c3, c4], _, hf =>
    obtain ⟨k, x, rfl, w0, rfl, rfl, rfl, rfl, _⟩ := open_op hf
    exact ⟨k, x, rfl, bounds_u8 w0⟩
end Go.Proofs.Ytmimfhjmhlmibaa
