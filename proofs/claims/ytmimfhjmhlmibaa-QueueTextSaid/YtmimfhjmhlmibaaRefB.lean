/- The reference's appends: a fresh row and what is appended to it. -/
import Derived.Test.YtmimfhjmhlmibaaRefA
namespace Go.Proofs.Ytmimfhjmhlmibaa
open Go.RowKit Go.MapKept Go.ChangeMaps
set_option linter.unusedVariables false
attribute [local go_sem ↓] Go.wp_at_zero Go.wp_at_succ

/-- block g is a row of the reference's items, of capacity cap, that begins with the cells xs -/
def Fr (w : World) (g cap : Nat) (xs : List Value) : Prop := ∃ pad : List Value, At w g 23 (xs ++ pad).toArray ∧ (xs ++ pad).length = cap * 4 ∧ cap ≤ 9223372036854775807
theorem Fr.lt {w : World} {g cap : Nat} {xs : List Value} (h : Fr w g cap xs) : g < w.heap.size := by
  obtain ⟨pad, h1, _⟩ := h
  exact h1.lt
theorem Fr.keep {Z : Nat → Prop} {w w' : World} {g cap : Nat} {xs : List Value} (h : Fr w g cap xs) (k : Keep Z w w') (hz : ¬ Z g) : Fr w' g cap xs := by
  obtain ⟨pad, h1, h2⟩ := h
  exact ⟨pad, h1.keep k hz, h2⟩
theorem Fr.own {w : World} {g cap B : Nat} {l : List E} (h : Fr w g cap (rows l)) (hB : B ≤ g) : w.ownsRow B 23 4 (.slice (some ⟨g, 0, none⟩) l.length cap) l.length (rows l) := by
  obtain ⟨pad, h1, h2, h3⟩ := h
  have hl := rows_length l
  refine ⟨hl, .inr ⟨g, cap, _, rfl, hB, h1, ?_, by unfold maxLen; omega, by simpa using h2, ?_⟩⟩
  · rw [List.length_append] at h2; omega
  · rw [← hl]
    exact List.take_left
theorem Fr.rl {w : World} {g cap : Nat} {l : List E} (h : Fr w g cap (rows l)) : RL w (.slice (some ⟨g, 0, none⟩) l.length cap) l := h.own (Nat.zero_le _)
theorem info_x : (Try.prog.info? 23).map (fun i => (i.zero, i.size, i.bytes)) = some (some (.agg #[.string ⟨#[]⟩, .int .i64 0, .int .i64 0, .int .i64 0]), 4, 40) := by kernel_rfl
theorem und_xs : Try.prog.underlying 33 = some (.slice 23) := Try.underlying33

/-- what an append to such a row leaves -/
def App (n m g : Nat) (xs : List Value) (w : World) (v' : Value) (w' : World) : Prop := ∃ g' cap' : Nat, v' = .slice (some ⟨g', 0, none⟩) (n + m) cap' ∧ Fr w' g' cap' xs ∧ (g' = g ∨ g' = w.heap.size) ∧ Keep (· = g) w w'
theorem app_run {w : World} {g cap n m : Nat} {xs news : List Value} {u : Value} (h : Fr w g cap xs) (hn : xs.length = n * 4) (hs : Src Try.prog 4 33 u m news w) (hb : n + m ≤ 200000) :
    ∃ v' w', (∀ ty, (Builtin.append_ #[33, 33] ty #[.slice (some ⟨g, 0, none⟩) n cap, u]).run Try.prog w = .ok v' w') ∧ App n m g (xs ++ news) w v' w' := by
  obtain ⟨i0, hi0, hz0, hzs, hzb⟩ := info_parts info_x
  obtain ⟨pad, h1, h2, h3⟩ := h
  rw [List.length_append] at h2
  have hnl := hs.newsLen
  have hs0 : Src Try.prog i0.size 33 u m news w := by rw [hzs]; exact hs
  by_cases hroom : n + m ≤ cap
  · have hr := fun ty => run_append_room_src (P := Try.prog) w 33 33 ty 23 i0 und_xs hi0 g 0 n cap u m news hs0 hroom
      (fun j hj => by rw [h1.cell]; simp only [List.getElem?_toArray]; rw [hzs, List.getElem?_eq_getElem (by rw [List.length_append]; omega)]; rfl)
      (fun j hj => h1.frozen _)
    refine ⟨_, _, hr, g, cap, rfl, ?_, .inl rfl, Keep.cells1 _ _ _ _⟩
    have e : xs ++ pad = xs ++ pad.take news.length ++ pad.drop news.length := by rw [List.append_assoc, List.take_append_drop]
    rw [e] at h1
    have h5 := At.setCells news xs (pad.take news.length) (pad.drop news.length) (by rw [List.length_take]; omega) h1
    rw [hzs, Nat.zero_add, ← hn]
    refine ⟨pad.drop news.length, h5, ?_, h3⟩
    rw [List.length_append, List.length_append, List.length_drop]
    omega
  · have hold : (Builtin.firstCells i0.size n (.slice (some ⟨g, 0, none⟩) n cap)).run Try.prog w.drew = .ok xs.toArray w.drew := by
      rw [hzs]
      exact run_firstCells_some w.drew 4 n ⟨g, 0, none⟩ n cap xs hn (fun j v hj => by
        rw [Addr.add_lit, Nat.zero_add]
        show w.cell? _ = _
        rw [h1.cell]
        have : j < xs.length := (List.getElem?_eq_some_iff.1 hj).1
        simpa [List.getElem?_append_left this] using hj)
    have hr := fun ty => run_append_grow_src (P := Try.prog) w 33 33 ty 23 i0 _ und_xs hi0 hz0 (some ⟨g, 0, none⟩) n cap xs hold u m news hs0 (by omega) (by omega) (by rw [hzb]; exact growslice_fits (by omega) (by omega))
    have hge := grownCap_ge w (n + m) cap 23
    have hle := grownCap_le_maxLen w (n + m) cap 23 (by unfold maxLen; omega)
    unfold maxLen at hle
    refine ⟨_, _, hr, w.heap.size, _, rfl, ?_, .inr rfl, (Keep.drew _ _).trans (Keep.alloc _ _ _)⟩
    refine ⟨(Builtin.zeroCells (Value.agg #[.string ⟨#[]⟩, .int .i64 0, .int .i64 0, .int .i64 0]).cells (grownCap w (n + m) cap 23 - (n + m))).toList, ?_, ?_, by omega⟩
    · have := At.new w.drew 23 ((xs ++ news).toArray ++ Builtin.zeroCells (Value.agg #[.string ⟨#[]⟩, .int .i64 0, .int .i64 0, .int .i64 0]).cells (grownCap w (n + m) cap 23 - (n + m)))
      have e : ∀ (a : List Value) (b : Array Value), (a ++ b.toList).toArray = a.toArray ++ b := fun a b => by apply Array.ext'; simp
      rw [e (xs ++ news)]
      exact this
    · rw [List.length_append, List.length_append]
      simp [Builtin.zeroCells, Value.cells]
      omega

/-- an append as one step of a region that draws -/
theorem step_app {P : Program} {ops : Array Oper} {o : Oper} {a : Act} {w : World} {K : Act → World → Prop} {Q : Exit → Act → World → Prop} {E : Prop}
    (hg : o.guard = none) (d x : Operand) (dT sT : TypeId) (hop : o.op = Op.call { callee := Callee.builtin Builtin.append, args := #[d, x], argTypes := #[dT, sT] })
    (v u : Value) (hd : a.eval d = v) (hx : a.eval x = u) {v' : Value} {w' : World} (hr : (Builtin.append_ #[dT, sT] o.type #[v, u]).run P w = .ok v' w') (hK : K (a.put o.dst v') w') :
    if Region.wanted o (yielded ops a.tmps) = true then Oper.wp P o a w K Q else E := by
  have hw : Region.wanted o (yielded ops a.tmps) = true := by simp [Region.wanted, hg]
  rw [if_pos hw]
  unfold Oper.wp
  simp [execOp, hop, resolve, invoke, builtin, hd, hx, hr, Result.andThen]
  exact hK

theorem reads_cell {w : World} {g : Nat} {l : List E} (h : Reads w g l) (j : Nat) (u : Value) (hj : (rows l)[j]? = some u) : w.cell? ⟨g, j, none⟩ = some u := by
  have hlt : j < (rows l).length := (List.getElem?_eq_some_iff.1 hj).1
  rw [rows_length] at hlt
  have hk : j / 4 < l.length := by omega
  have e : j = j / 4 * 4 + j % 4 := by omega
  rw [e, rows_get l (j / 4) (j % 4) hk (by omega)] at hj
  rw [e]
  obtain ⟨h0, h1, h2, h3⟩ := h (j / 4) hk
  have h4 : j % 4 = 0 ∨ j % 4 = 1 ∨ j % 4 = 2 ∨ j % 4 = 3 := by omega
  rcases h4 with h4 | h4 | h4 | h4 <;> rw [h4] at hj ⊢ <;> simp [ecells] at hj <;> subst hj <;> assumption
/-- the two parts of a slice, as sources -/
theorem src_take {w : World} {g cap at' : Nat} {l : List E} (h : Reads w g l) (hat : at' ≤ l.length) : Src Try.prog 4 33 (.slice (some ⟨g, 0, none⟩) at' cap) at' (rows (l.take at')) w :=
  Src.ofSlice w und_xs ⟨g, 0, none⟩ at' cap _ (by rw [rows_length, List.length_take]; congr 1; omega) (fun j u hj => by
    rw [Addr.add_lit, Nat.zero_add]
    rw [← rows_take, List.getElem?_take] at hj
    split at hj
    · exact reads_cell h j u hj
    · cases hj) (one_rows _)
end Go.Proofs.Ytmimfhjmhlmibaa
