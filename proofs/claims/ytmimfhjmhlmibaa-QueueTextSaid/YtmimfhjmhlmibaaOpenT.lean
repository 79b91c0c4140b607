/- The argument of a law: a slice of operations, opened, with the sizes of its names. -/
import Derived.Test.YtmimfhjmhlmibaaOpen
import Derived.SizedLaws
namespace Go.Proofs.Ytmimfhjmhlmibaa
open Go.ChangeShapes Go.WideShapes Go.ChangeAt Go.RowKit Go.Joins Go.Deep
set_option linter.unusedVariables false

theorem weights_all_mem {H : Type} {P : Program} {e : TypeId} : ∀ {l : List (DataW H)} {d : DataW H}, d ∈ l → ∀ n ∈ d.weights P e, n ∈ DataW.weightsAll P e l
  | [], _, h, _, _ => by cases h
  | x :: l, d, h, n, hn => by
    simp only [DataW.weightsAll, List.mem_append]
    rcases List.mem_cons.1 h with rfl | h
    · exact .inl hn
    · exact .inr (weights_all_mem h n hn)
theorem open_op_sized {H : Type} {enc : TypeId × Value → H} {w : World} {base : Nat} {spare : Nat → Bool} {held : Bool} {n : Nat} {c0 c1 c2 c3 c4 : Value} {y : DataW H × List MemPlace}
    (h : DataW.trod enc Try.prog w base spare held n 35 [c0, c1, c2, c3, c4] = some y) :
    ∃ (k : Int) (x : E), c0 = .int .u8 k ∧ (Lit.int .u8 k).wf = true ∧ c1 = .string x.id ∧ c2 = .int .i64 x.p ∧ c3 = .int .i64 x.s ∧ c4 = .int .i64 x.v ∧ x.id.size ∈ y.1.weights Try.prog 35 := by
  obtain ⟨y0, y1, m, hy, -, h0, h1⟩ := trod_struct2 Try.underlying35 h
  obtain ⟨z0, z1, z2, z3, m', hz, -, g0, g1, g2, g3⟩ := trod_struct4 Try.underlying23 h1
  obtain ⟨k, e0, -, w0⟩ := DataW.trod_int Try.underlying5 h0
  obtain ⟨i, e1, x1, w1⟩ := DataW.trod_string Try.underlying9 g0
  obtain ⟨p, e2, -, w2⟩ := DataW.trod_int Try.underlying3 g1
  obtain ⟨s, e3, -, w3⟩ := DataW.trod_int Try.underlying3 g2
  obtain ⟨v, e4, -, w4⟩ := DataW.trod_int Try.underlying3 g3
  simp [cells_u, cells_x, cells_s, cells_i] at e0 e1 e2 e3 e4
  refine ⟨k, ⟨i, p, s, v⟩, e0, w0, e1, e2, e3, e4, ?_⟩
  subst hy hz x1
  simp [DataW.weights, Try.underlying35, Try.underlying23, DataW.weightsEach]
set_option maxRecDepth 100000 in
theorem open_ops_sized {H : Type} {enc : TypeId × Value → H} {w : World} {r : Reach} {b0 : Nat} {spare : Nat → Bool} {held : Bool} {v : Value} {d : DataW H} {p : List MemPlace}
    (hv : Value.okWide Try.prog w r b0 30 v) (h : DataW.Trod enc Try.prog w 0 spare held 30 v d p) (hall : ∀ n ∈ d.weights Try.prog 30, n ≤ reachBytes) : ∃ os, OL w v os ∧ ∀ o ∈ os, o.2.id.size ≤ reachBytes := by
  obtain ⟨a0, len, cap, rfl⟩ := okWide_slice Try.underlying30 hv
  obtain ⟨fuel, hf⟩ := h
  rcases open_slice Try.underlying30 hf with ⟨h1, _⟩ | ⟨a, len', cap', m, n, D, Pl, h1, _, hl, hm, hmm, hx, hi⟩
  · simp [Value.cells] at h1
    obtain ⟨rfl, rfl, rfl⟩ := h1
    exact ⟨[], .inl ⟨none, 0, rfl, rfl⟩, fun o ho => by cases ho⟩
  · simp [Value.cells] at h1
    obtain ⟨rfl, rfl, rfl⟩ := h1
    have hlm : len ≤ m := by rw [hmm]; split <;> omega
    have hd : d = .slice ((List.range len).map D) ((List.range (m - len)).map fun j => D (len + j)) := congrArg Prod.fst hx
    subst hd
    have hw : ∀ i, i < len → ∀ n ∈ (D i).weights Try.prog 35, n ≤ reachBytes := fun i hil n hn => hall n (by
      simp only [DataW.weights, Try.underlying30]
      exact List.mem_cons_of_mem _ (List.mem_append_left _ (weights_all_mem (List.mem_map.2 ⟨i, List.mem_range.2 hil, rfl⟩) n hn)))
    by_cases hz : len = 0
    · subst hz
      exact ⟨[], .inl ⟨_, _, rfl, rfl⟩, fun o ho => by cases ho⟩
    · have each : ∀ i, i < len → ∃ o : Int × E, (0 ≤ o.1 ∧ o.1 ≤ 255) ∧ w.cell? (a.add (i * 5)) = some (.int .u8 o.1) ∧ w.cell? ((a.add (i * 5)).add 1) = some (.string o.2.id) ∧ w.cell? ((a.add (i * 5)).add 2) = some (.int .i64 o.2.p) ∧ w.cell? ((a.add (i * 5)).add 3) = some (.int .i64 o.2.s) ∧ w.cell? ((a.add (i * 5)).add 4) = some (.int .i64 o.2.v) ∧ o.2.id.size ≤ reachBytes := by
        intro i hil
        obtain ⟨cs', hc, ht⟩ := hi i (by omega)
        rw [cells_op] at hc
        obtain ⟨_, hcl, hat⟩ := World.cells?_some hc
        match cs', hcl, ht, hat with
        | [c0, c1, c2, c3, c4], _, ht, hat =>
          obtain ⟨k, x, rfl, w0, rfl, rfl, rfl, rfl, hs⟩ := open_op_sized ht
          refine ⟨(k, x), bounds_u8 w0, ?_, hat 1 (by omega), hat 2 (by omega), hat 3 (by omega), hat 4 (by omega), hw i hil _ hs⟩
          have := hat 0 (by omega)
          rwa [show (a.add (i * 5)).add 0 = a.add (i * 5) from rfl] at this
      obtain ⟨os, ho, hP⟩ := pick_list len each
      obtain ⟨b, off, spot⟩ := a
      have hspot : spot = none := by
        have := (hP 0 (by omega)).2.1
        rw [Nat.zero_mul] at this
        exact World.cell?_spot this
      subst hspot
      have hb : b < w.heap.size := by
        have := (hP 0 (by omega)).2.1
        rw [Nat.zero_mul] at this
        exact World.block_lt_of_cell? w _ this
      subst ho
      refine ⟨os, .inr ⟨b, off, cap, rfl, hb, by unfold maxLen at hm; omega, fun k hk => ?_⟩, fun o ho => ?_⟩
      · obtain ⟨⟨h0, h1⟩, c0, c1, c2, c3, c4, _⟩ := hP k hk
        simp only [Addr.add_lit] at c0 c1 c2 c3 c4
        exact ⟨h0, h1, c0, c1, c2, c3, c4⟩
      · obtain ⟨k, hk, rfl⟩ := List.getElem_of_mem ho
        exact (hP k hk).2.2.2.2.2.2
end Go.Proofs.Ytmimfhjmhlmibaa
