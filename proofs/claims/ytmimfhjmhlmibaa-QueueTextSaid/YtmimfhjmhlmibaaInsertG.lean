/- The walk of slices.Insert at one item in the middle, without room: a new row. -/
import Derived.Test.YtmimfhjmhlmibaaInsert
import Derived.Shelf.Spec.SlicesInsertGrow
namespace Go.Proofs.Ytmimfhjmhlmibaa
open Go.RowKit
set_option linter.unusedVariables false
attribute [local go_sem ↓] Go.wp_at_zero Go.wp_at_succ

set_option maxHeartbeats 4000000 in
set_option maxRecDepth 100000 in
theorem insert_grow (g cap vb i : Nat) (tA : TypeId) (l : List E) (x : E) (w : World) (hi : i < l.length) (hl : l.length ≤ 100000) (hnc : l.length ≤ cap) (hroom : cap < l.length + 1) (hvb : vb ≠ g) (hr : RowAt w g cap l) (hv : At w vb tA (ecells x).toArray) :
    Calls Try.prog 61 #[.slice (some ⟨g, 0, none⟩) l.length cap, .int .i64 (i : Nat), .slice (some ⟨vb, 0, none⟩) 1 1] w fun e w' =>
      e = .returned (.slice (some ⟨w.heap.size, 0, none⟩) (l.length + 1) (grownCap w (l.length + 1) cap 88)) ∧
      w' = (((w.alloc (.cells ((rows (l.take i)).toArray ++ Builtin.zeroCells (Value.agg #[.string ⟨#[]⟩, .int .i64 0, .int .i64 0, .int .i64 0]).cells (l.length + 1 - i) ++ Builtin.zeroCells (Value.agg #[.string ⟨#[]⟩, .int .i64 0, .int .i64 0, .int .i64 0]).cells (grownCap w (l.length + 1) cap 88 - (l.length + 1))) 88)).drew.setCells w.heap.size (i * 4) (ecells x)).drew).setCells w.heap.size ((i + 1) * 4) (rows (l.drop i)) := by
  obtain ⟨i0, hi0, hz0, hzs, hzb⟩ := info_parts info_entry
  have hcell : ∀ (j : Nat) u, (ecells x)[j]? = some u → w.cell? ⟨vb, j, none⟩ = some u := fun j u hj => by rw [hv.cell]; simpa using hj
  have hbw : g < w.heap.size := hr.lt
  have hvw : vb < w.heap.size := hv.lt
  have hkk : (l.length : Int) + 1 - (i : Int) = ((l.length + 1 - i : Nat) : Int) := by omega
  have hik : i + (l.length + 1 - i) = l.length + 1 := by omega
  have htl : (rows (l.take i)).length = i * 4 := by rw [rows_length, List.length_take]; congr 1; omega
  have hold : (Builtin.firstCells i0.size i (.slice (some ⟨g, 0, none⟩) i cap)).run Try.prog w.drew = .ok (rows (l.take i)).toArray w.drew := by
    rw [hzs]
    exact run_firstCells_some w.drew 4 i ⟨g, 0, none⟩ i cap (rows (l.take i)) htl (fun j v hj => by
      rw [Addr.add_lit, Nat.zero_add]
      rw [← rows_take, List.getElem?_take] at hj
      split at hj
      · exact hr.cell j v hj
      · cases hj)
  have hrz : ∀ ty, (Builtin.append_ #[85, 3] ty #[.slice (some ⟨g, 0, none⟩) i cap, .int .i64 ((l.length : Int) + 1 - (i : Int))]).run Try.prog w =
      .ok (.slice (some ⟨w.heap.size, 0, none⟩) (l.length + 1) (grownCap w (l.length + 1) cap 88)) (w.drew.alloc (.cells ((rows (l.take i)).toArray ++ Builtin.zeroCells (Value.agg #[.string ⟨#[]⟩, .int .i64 0, .int .i64 0, .int .i64 0]).cells (l.length + 1 - i) ++ Builtin.zeroCells (Value.agg #[.string ⟨#[]⟩, .int .i64 0, .int .i64 0, .int .i64 0]).cells (grownCap w (l.length + 1) cap 88 - (l.length + 1))) 88)) := fun ty => by
    have h := Lib.run_append_grow_zeros w 85 3 ty 88 i0 _ .i64 .i64 Try.underlying85 und_int hi0 hz0 (some ⟨g, 0, none⟩) i cap (rows (l.take i)) hold (l.length + 1 - i) (by omega) (by omega) (by omega) (by omega) (by rw [hzb]; omega) (by rw [hzb, hik]; exact growslice_fits hroom (by omega))
    rw [hik] at h
    rw [hkk]
    exact h
  obtain ⟨G, hG⟩ : ∃ G, G = grownCap w (l.length + 1) cap 88 := ⟨_, rfl⟩
  obtain ⟨ROW, hROW⟩ : ∃ ROW : Array Value, ROW = (rows (l.take i)).toArray ++ Builtin.zeroCells (Value.agg #[.string ⟨#[]⟩, .int .i64 0, .int .i64 0, .int .i64 0]).cells (l.length + 1 - i) ++ Builtin.zeroCells (Value.agg #[.string ⟨#[]⟩, .int .i64 0, .int .i64 0, .int .i64 0]).cells (G - (l.length + 1)) := ⟨_, rfl⟩
  rw [← hG] at hrz ⊢
  rw [← hROW] at hrz ⊢
  have hRl : (l.length + 1) * 4 ≤ ROW.size := by
    rw [hROW]
    simp [Builtin.zeroCells, Value.cells, htl]
    omega
  obtain ⟨W1, hW1⟩ : ∃ W1, W1 = w.drew.alloc (.cells ROW 88) := ⟨_, rfl⟩
  rw [← hW1] at hrz
  have hN : ∀ j, j < (l.length + 1) * 4 → (W1.cell? ⟨w.heap.size, j, none⟩).isSome = true := fun j hj => by
    rw [hW1, World.cell?_alloc_at (w := w.drew) ROW _ w.heap.size j rfl, Array.getElem?_eq_getElem (by omega)]; rfl
  have hNf : ∀ j, W1.frozen? ⟨w.heap.size, j, none⟩ = false := fun j => by rw [hW1]; exact World.frozen?_alloc_at (w := w.drew) ROW _ w.heap.size j rfl
  have hOb : ∀ j v, w.cell? ⟨g, j, none⟩ = some v → W1.cell? ⟨g, j, none⟩ = some v := fun j v h => by rw [hW1, World.cell?_alloc_past (w := w.drew) _ g j hbw]; exact h
  have hOv : ∀ j v, w.cell? ⟨vb, j, none⟩ = some v → W1.cell? ⟨vb, j, none⟩ = some v := fun j v h => by rw [hW1, World.cell?_alloc_past (w := w.drew) _ vb j hvw]; exact h
  have hcpA : ∀ (W : World), (∀ x, W.cell? x = W1.cell? x) → (∀ x, W.frozen? x = W1.frozen? x) → ∀ ty dc, (Builtin.copy_ #[85, 85] ty #[.slice (some ⟨w.heap.size, i * 4, none⟩) (l.length + 1 - i) dc, .slice (some ⟨vb, 0, none⟩) 1 1]).run Try.prog W = .ok (goInt (Nat.min 1 (l.length + 1 - i))) (W.setCells w.heap.size (i * 4) (ecells x)) := fun W hWc hWf ty dc =>
    copy_cellsN W _ _ ty 88 i0 w.heap.size (i * 4) (l.length + 1 - i) dc ⟨vb, 0, none⟩ 1 1 (ecells x) Try.underlying85 hi0 (by rw [hzs]; simp only [Nat.min_def, ecells]; split <;> simp <;> omega)
      (fun j v hj => by rw [Addr.add_lit, hWc, Nat.zero_add]; exact hOv _ v (hcell j v hj))
      (fun j hj => by rw [hWc]; exact hN _ (by have : j < 4 := hj; omega)) (fun j hj => by rw [hWf]; exact hNf _) (oneX x)
  have hGn : l.length + 1 ≤ G := by rw [hG]; exact grownCap_ge w _ _ _
  have hG63 : G ≤ 9223372036854775807 := by
    have := grownCap_le_maxLen w (l.length + 1) cap 88 (by unfold maxLen; omega)
    rw [← hG] at this
    unfold maxLen at this
    omega
  have hGi : ¬ (G = i) := by omega
  have hGim : ¬ (G = i + 1) := by omega
  have hci : ¬ (cap = i) := by omega
  have hbN : g ≠ w.heap.size := by omega
  have hdl : (rows (l.drop i)).length = (l.length - i) * 4 := by rw [rows_length, List.length_drop]
  have hcpB : ∀ (W : World), (∀ y, W.cell? y = (W1.setCells w.heap.size (i * 4) (ecells x)).cell? y) → (∀ y, W.frozen? y = (W1.setCells w.heap.size (i * 4) (ecells x)).frozen? y) → ∀ ty dc sc, (Builtin.copy_ #[85, 85] ty #[.slice (some ⟨w.heap.size, (i + 1) * 4, none⟩) (l.length - i) dc, .slice (some ⟨g, i * 4, none⟩) (l.length - i) sc]).run Try.prog W = .ok (goInt (Nat.min (l.length - i) (l.length - i))) (W.setCells w.heap.size ((i + 1) * 4) (rows (l.drop i))) := fun W hWc hWf ty dc sc =>
    copy_cellsN W _ _ ty 88 i0 w.heap.size ((i + 1) * 4) (l.length - i) dc ⟨g, i * 4, none⟩ (l.length - i) sc (rows (l.drop i)) Try.underlying85 hi0 (by rw [hdl, hzs]; simp only [Nat.min_def]; split <;> congr 1 <;> omega)
      (fun j v hj => by
        rw [Addr.add_lit, hWc, World.cell?_setCells_out _ _ _ _ _ (fun h _ => absurd h hbN)]
        exact hOb _ v (hr.cell (i * 4 + j) v (by rw [← rows_drop, List.getElem?_drop] at hj; exact hj)))
      (fun j hj => by rw [hWc]; exact isSome_setCells _ _ _ _ (fun t ht => hN _ (by have : t < 4 := ht; omega)) _ (hN _ (by omega)))
      (fun j hj => by rw [hWf, World.frozen?_setCells]; exact hNf _) (one_rows _)
  subst hW1
  have hE1 : ∀ y, ((w.alloc (.cells ROW 88)).drew).cell? y = (w.drew.alloc (.cells ROW 88)).cell? y := fun y => rfl
  have hE2 : ∀ y, ((w.alloc (.cells ROW 88)).drew).frozen? y = (w.drew.alloc (.cells ROW 88)).frozen? y := fun y => rfl
  have hF1 : ∀ y, (((w.alloc (.cells ROW 88)).drew.setCells w.heap.size (i * 4) (ecells x)).drew).cell? y = ((w.drew.alloc (.cells ROW 88)).setCells w.heap.size (i * 4) (ecells x)).cell? y := fun y => rfl
  have hF2 : ∀ y, (((w.alloc (.cells ROW 88)).drew.setCells w.heap.size (i * 4) (ecells x)).drew).frozen? y = ((w.drew.alloc (.cells ROW 88)).setCells w.heap.size (i * 4) (ecells x)).frozen? y := fun y => rfl
  have hz2 : ¬ ((i : Int) = (l.length : Int)) := by omega
  have hw1 : IntKind.i64.wrap ((i : Int) + 1) = (i : Int) + 1 := by rw [IntKind.wrap_i64]; omega
  have hb1 : (0 : Int) ≤ (i : Int) + 1 := by omega
  have hin : i ≤ l.length := by omega
  have htn : ((i : Int) + 1).toNat = i + 1 := by omega
  have hb3 : (i : Int) ≤ (l.length : Int) := by omega
  have hz3 : (cap : Int) < (l.length : Int) + 1 := by omega
  have mixed : Try.prog.follows .mixedOrders = true := by kernel_rfl
  have hcc := Lib.hid hr
  clear hkk hik hold hROW hG hRl hr
  go_enter Try.func61, Try.ntmps61
  go_wp2_with (first
    | (at_builtin; refine Lib.wpList_append_run _ rfl _ _ _ _ rfl _ _ rfl rfl _ _ (hrz _) ?_)
    | (at_builtin; refine wpList_copy_runI _ rfl _ _ 85 85 rfl _ _ rfl rfl (hcpA _ hE1 hE2 _ _) ?_)
    | (at_builtin; refine wpList_copy_runI _ rfl _ _ 85 85 rfl _ _ rfl rfl (hcpB _ (fun _ => rfl) (fun _ => rfl) _ _ _) ?_))
  go_region_law_o (refine step_copy_runI rfl _ _ 85 85 rfl (.slice (some ⟨w.heap.size, (i + 1) * 4, none⟩) (l.length - i) (G - (i + 1))) (.slice (some ⟨g, i * 4, none⟩) (l.length - i) (cap - i)) (by simp [Act.eval, Act.put]) (by simp [Act.eval, Act.put]) (hcpB _ hF1 hF2 3 (G - (i + 1)) (cap - i)) ?_)
  go_wp2_with fail
  go_ret
  exact ⟨rfl, rfl⟩
end Go.Proofs.Ytmimfhjmhlmibaa
