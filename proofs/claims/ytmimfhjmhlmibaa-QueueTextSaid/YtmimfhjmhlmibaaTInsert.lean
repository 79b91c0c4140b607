/- slices.Insert of the queue of texts: at the end, and by a shift. -/
import Derived.Test.YtmimfhjmhlmibaaTSmall
namespace Go.Proofs.Ytmimfhjmhlmibaa.T
open Go.RowKit
set_option linter.unusedVariables false
attribute [local go_sem ↓] Go.wp_at_zero Go.wp_at_succ

/-- the row of the items: the items, and spare cells up to the capacity -/
def RowAt (w : World) (g cap : Nat) (l : List E) : Prop := ∃ pad : List Value, At w g 82 (rows l ++ pad).toArray ∧ (rows l ++ pad).length = cap * 4
theorem RowAt.lt {w : World} {g cap : Nat} {l : List E} (h : RowAt w g cap l) : g < w.heap.size := by
  obtain ⟨pad, h1, _⟩ := h
  exact h1.lt
theorem RowAt.cell {w : World} {g cap : Nat} {l : List E} (h : RowAt w g cap l) (j : Nat) (v : Value) (hj : (rows l)[j]? = some v) : w.cell? ⟨g, j, none⟩ = some v := by
  obtain ⟨pad, h1, _⟩ := h
  rw [h1.cell]
  have : j < (rows l).length := (List.getElem?_eq_some_iff.1 hj).1
  simpa [List.getElem?_append_left this] using hj
theorem RowAt.some {w : World} {g cap : Nat} {l : List E} (h : RowAt w g cap l) (j : Nat) (hj : j < cap * 4) : (w.cell? ⟨g, j, none⟩).isSome = true := by
  obtain ⟨pad, h1, h2⟩ := h
  rw [h1.cell]
  simp only [List.getElem?_toArray]
  rw [List.getElem?_eq_getElem (by omega)]
  rfl
theorem RowAt.frozen {w : World} {g cap : Nat} {l : List E} (h : RowAt w g cap l) (j : Nat) : w.frozen? ⟨g, j, none⟩ = false := by
  obtain ⟨pad, h1, h2⟩ := h
  exact h1.frozen j
theorem info_entry : (Try.prog.info? 82).map (fun i => (i.zero, i.size, i.bytes)) = some (some (.agg #[.string ⟨#[]⟩, .int .i64 0, .int .i64 0, .string ⟨#[]⟩]), 4, 48) := by kernel_rfl
theorem one_rows (l : List E) : ∀ v ∈ rows l, v.oneCell' = true := by
  intro v hv
  obtain ⟨e, _, he⟩ := List.mem_flatMap.1 hv
  simp [ecells] at he
  rcases he with rfl | rfl | rfl | rfl <;> rfl
theorem RowAt.reads {w : World} {g cap : Nat} {l : List E} (h : RowAt w g cap l) : Reads w g l := fun k hk => by
  refine ⟨h.cell _ _ ?_, h.cell _ _ ?_, h.cell _ _ ?_, h.cell _ _ ?_⟩
  · have := rows_get l k 0 hk (by omega); rw [Nat.add_zero] at this; rw [this]; rfl
  · rw [rows_get l k 1 hk (by omega)]; rfl
  · rw [rows_get l k 2 hk (by omega)]; rfl
  · rw [rows_get l k 3 hk (by omega)]; rfl

set_option maxHeartbeats 4000000 in
set_option maxRecDepth 100000 in
/-- at the end, with room -/
theorem insert_end_room (g cap vb : Nat) (l : List E) (x : E) (w : World) (hl : l.length ≤ 100000) (hroom : l.length + 1 ≤ cap) (hc : cap ≤ 9223372036854775807) (hr : RowAt w g cap l) (hv : ∀ (j : Nat) u, (ecells x)[j]? = some u → w.cell? ⟨vb, j, none⟩ = some u) :
    Calls Try.prog 55 #[.slice (some ⟨g, 0, none⟩) l.length cap, .int .i64 (l.length : Nat), .slice (some ⟨vb, 0, none⟩) 1 1] w fun e w' =>
      e = .returned (.slice (some ⟨g, 0, none⟩) (l.length + 1) cap) ∧ w' = w.setCells g (l.length * 4) (ecells x) := by
  obtain ⟨i0, hi0, hz0, hzs, hzb⟩ := info_parts info_entry
  have hsrc : Src Try.prog i0.size 73 (.slice (some ⟨vb, 0, none⟩) 1 1) 1 (ecells x) w := by
    rw [hzs]
    exact Src.ofSlice w Try.underlying73 ⟨vb, 0, none⟩ 1 1 (ecells x) (by rfl) (fun j u hj => by rw [Addr.add_lit, Nat.zero_add]; exact hv j u hj) (fun u hu => one_rows [x] u (by simpa [rows] using hu))
  have hel : (ecells x).length = 4 := by rfl
  have hsp : ∀ j, j < (ecells x).length → (w.cell? ⟨g, 0 + l.length * i0.size + j, none⟩).isSome = true := fun j hj => by
    rw [hzs, Nat.zero_add]
    exact hr.some _ (by omega)
  have hfz : ∀ j, j < (ecells x).length → w.frozen? ⟨g, 0 + l.length * i0.size + j, none⟩ = false := fun j hj => hr.frozen _
  have hcc := Lib.hid hr
  clear hr
  go_enter Try.func55, Try.ntmps55
  go_wp2_with (at_builtin; refine wpList_append_room_src _ rfl _ _ 73 73 rfl 82 _ Try.underlying73 hi0 g 0 l.length cap rfl _ rfl 1 (ecells x) hsrc hroom hsp hfz ?_)
  go_ret
  exact ⟨rfl, rfl⟩

theorem oneX (x : E) : ∀ u ∈ ecells x, u.oneCell' = true := fun u hu => one_rows [x] u (by simpa [rows] using hu)

set_option maxHeartbeats 4000000 in
set_option maxRecDepth 100000 in
/-- at the end, without room: a new row -/
theorem insert_end_grow (A : Option Addr) (g cap vb : Nat) (l : List E) (x : E) (w : World) (hl : l.length ≤ 100000) (hnc : l.length ≤ cap) (hroom : cap < l.length + 1) (hA : (A = none ∧ l = []) ∨ (A = some ⟨g, 0, none⟩ ∧ RowAt w g cap l)) (hv : ∀ (j : Nat) u, (ecells x)[j]? = some u → w.cell? ⟨vb, j, none⟩ = some u) :
    Calls Try.prog 55 #[.slice A l.length cap, .int .i64 (l.length : Nat), .slice (some ⟨vb, 0, none⟩) 1 1] w fun e w' =>
      e = .returned (.slice (some ⟨w.heap.size, 0, none⟩) (l.length + 1) (grownCap w (l.length + 1) cap 82)) ∧
      w' = w.drew.alloc (.cells ((rows l ++ ecells x).toArray ++ Builtin.zeroCells (Value.agg #[.string ⟨#[]⟩, .int .i64 0, .int .i64 0, .string ⟨#[]⟩]).cells (grownCap w (l.length + 1) cap 82 - (l.length + 1))) 82) := by
  obtain ⟨i0, hi0, hz0, hzs, hzb⟩ := info_parts info_entry
  have hsrc : Src Try.prog i0.size 73 (.slice (some ⟨vb, 0, none⟩) 1 1) 1 (ecells x) w := by
    rw [hzs]
    exact Src.ofSlice w Try.underlying73 ⟨vb, 0, none⟩ 1 1 (ecells x) (by rfl) (fun j u hj => by rw [Addr.add_lit, Nat.zero_add]; exact hv j u hj) (oneX x)
  have hold : (Builtin.firstCells i0.size l.length (.slice A l.length cap)).run Try.prog w.drew = .ok (rows l).toArray w.drew := by
    rw [hzs]
    rcases hA with ⟨rfl, rfl⟩ | ⟨rfl, hr⟩
    · exact run_firstCells_none w.drew 4 0 0 cap
    · exact run_firstCells_some w.drew 4 l.length ⟨g, 0, none⟩ l.length cap (rows l) (rows_length l) (fun j v hj => by rw [Addr.add_lit, Nat.zero_add]; exact hr.cell j v hj)
  have hrun : ∀ ty, (Builtin.append_ #[73, 73] ty #[.slice A l.length cap, .slice (some ⟨vb, 0, none⟩) 1 1]).run Try.prog w = _ := fun ty =>
    run_append_grow_src w 73 73 ty 82 i0 _ Try.underlying73 hi0 hz0 A l.length cap (rows l) hold _ 1 (ecells x) hsrc hroom (by omega) (by rw [hzb]; exact growslice_fits hroom (by omega))
  have hb : ∀ a, A = some a → a = ⟨g, 0, none⟩ := by rcases hA with ⟨rfl, rfl⟩ | ⟨rfl, hr⟩ <;> simp
  have hcc := Lib.hid hA
  have hA2 : A = none → l = [] := by rcases hA with ⟨rfl, rfl⟩ | ⟨rfl, hr⟩ <;> simp
  clear hA
  go_enter Try.func55, Try.ntmps55
  cases A with
  | none =>
    obtain rfl := hA2 rfl
    go_wp2_with (at_builtin; refine Lib.wpList_append_run _ rfl _ _ _ _ rfl _ _ rfl rfl _ _ (hrun _) ?_)
    go_ret
    exact ⟨rfl, rfl⟩
  | some a =>
    obtain rfl := hb a rfl
    go_wp2_with (at_builtin; refine Lib.wpList_append_run _ rfl _ _ _ _ rfl _ _ rfl rfl _ _ (hrun _) ?_)
    all_goals (go_ret; exact ⟨rfl, rfl⟩)

set_option maxHeartbeats 4000000 in
set_option maxRecDepth 100000 in
/-- in the middle, with room: in place -/
theorem insert_shift (g cap vb i : Nat) (tA : TypeId) (l : List E) (x : E) (w : World) (hi : i < l.length) (hl : l.length ≤ 100000) (hroom : l.length + 1 ≤ cap) (hc : cap ≤ 9223372036854775807) (hvb : vb ≠ g) (hr : RowAt w g cap l) (hv : At w vb tA (ecells x).toArray) :
    Calls Try.prog 55 #[.slice (some ⟨g, 0, none⟩) l.length cap, .int .i64 (i : Nat), .slice (some ⟨vb, 0, none⟩) 1 1] w fun e w' =>
      e = .returned (.slice (some ⟨g, 0, none⟩) (l.length + 1) cap) ∧ w' = (w.drew.setCells g ((i + 1) * 4) (rows (l.drop i))).setCells g (i * 4) (ecells x) := by
  obtain ⟨i0, hi0, hz0, hzs, hzb⟩ := info_parts info_entry
  have hcell : ∀ (j : Nat) u, (ecells x)[j]? = some u → w.cell? ⟨vb, j, none⟩ = some u := fun j u hj => by rw [hv.cell]; simpa using hj
  obtain ⟨kB, hkB, hsb⟩ : ∃ kB, kB ≠ 0 ∧ w.shape? g = some (82, kB) := by
    obtain ⟨pad, h1, h2⟩ := hr
    exact ⟨(rows l ++ pad).length, by omega, by simp [World.shape?, show w.heap[g]? = _ from h1]⟩
  have hsa : w.shape? vb = some (tA, 4) := by simp [World.shape?, show w.heap[vb]? = _ from hv, ecells]
  have hov : ∀ lb cb, (callFunc 64 #[.slice (some ⟨vb, 0, none⟩) 1 1, .slice (some ⟨g, (i + 1) * 4, none⟩) lb cb]).run Try.prog w = .ok (.value (.bool false)) w := fun lb cb => by
    rw [run_callFunc_extern Try.func64 (by kernel_rfl) (by kernel_rfl) (by kernel_rfl) (e := Extern.SlicesOverlaps.overlaps #[73, 73] #[4]) (by kernel_rfl),
      Lib.run_overlaps_apart w 73 4 82 Try.underlying73 4 (fun w => by go_simp) ⟨vb, 0, none⟩ ⟨g, (i + 1) * 4, none⟩ 1 1 lb cb hvb tA 82 4 kB hsa hsb hkB (hv.frozen 0) (hv.frozen 4)]
    rfl
  have hdl : (rows (l.drop i)).length = (l.length - i) * 4 := by rw [rows_length, List.length_drop]
  have hcp1 : ∀ ty dc sc, (Builtin.copy_ #[73, 73] ty #[.slice (some ⟨g, (i + 1) * 4, none⟩) (l.length - i) dc, .slice (some ⟨g, i * 4, none⟩) (l.length + 1 - i) sc]).run Try.prog w.drew = .ok (goInt (Nat.min (l.length + 1 - i) (l.length - i))) (w.drew.setCells g ((i + 1) * 4) (rows (l.drop i))) := fun ty dc sc =>
    copy_cellsN w.drew _ _ ty 82 i0 g ((i + 1) * 4) (l.length - i) dc ⟨g, i * 4, none⟩ (l.length + 1 - i) sc (rows (l.drop i)) Try.underlying73 hi0 (by rw [hdl, hzs]; simp only [Nat.min_def]; split <;> congr 1 <;> omega)
      (fun j v hj => by rw [Addr.add_lit]; exact hr.cell (i * 4 + j) v (by rw [← rows_drop, List.getElem?_drop] at hj; exact hj))
      (fun j hj => hr.some _ (by omega)) (fun j hj => hr.frozen _) (one_rows _)
  obtain ⟨W1, hW1⟩ : ∃ W1, W1 = w.drew.setCells g ((i + 1) * 4) (rows (l.drop i)) := ⟨_, rfl⟩
  have hsp1 : ∀ k, k < cap * 4 → (W1.cell? ⟨g, k, none⟩).isSome = true := fun k hk => by
    rw [hW1]
    exact isSome_setCells g (rows (l.drop i)) ((i + 1) * 4) w.drew (fun j hj => hr.some _ (by omega)) _ (hr.some k hk)
  have hcp2 : ∀ (W : World), (∀ x, W.cell? x = W1.cell? x) → (∀ x, W.frozen? x = W1.frozen? x) → ∀ ty dc, (Builtin.copy_ #[73, 73] ty #[.slice (some ⟨g, i * 4, none⟩) (l.length + 1 - i) dc, .slice (some ⟨vb, 0, none⟩) 1 1]).run Try.prog W = .ok (goInt (Nat.min 1 (l.length + 1 - i))) (W.setCells g (i * 4) (ecells x)) := fun W hWc hWf ty dc =>
    copy_cellsN W _ _ ty 82 i0 g (i * 4) (l.length + 1 - i) dc ⟨vb, 0, none⟩ 1 1 (ecells x) Try.underlying73 hi0 (by rw [hzs]; simp only [Nat.min_def, ecells]; split <;> simp <;> omega)
      (fun j v hj => by
        rw [Addr.add_lit, hWc, hW1, World.cell?_setCells_out g _ _ _ _ (fun h _ => absurd h hvb), Nat.zero_add]
        exact hcell j v hj)
      (fun j hj => by rw [hWc]; exact hsp1 _ (by have : j < 4 := hj; omega)) (fun j hj => by rw [hWf, hW1, World.frozen?_setCells]; exact hr.frozen _) (oneX x)
  rw [← hW1] at hcp1
  have hcc := Lib.hid hr
  clear hr
  go_enter Try.func55, Try.ntmps55
  have hz2 : ¬ ((i : Int) = (l.length : Int)) := by omega
  have hw1 : IntKind.i64.wrap ((i : Int) + 1) = (i : Int) + 1 := by rw [IntKind.wrap_i64]; omega
  have hw2 : IntKind.i64.wrap ((l.length : Int) + 1) = (l.length : Int) + 1 := by rw [IntKind.wrap_i64]; omega
  have hb3 : (i : Int) ≤ (l.length : Int) + 1 := by omega
  have hb1 : (0 : Int) ≤ (i : Int) + 1 := by omega
  have hin : i ≤ l.length := by omega
  have htn : ((i : Int) + 1).toNat = i + 1 := by omega
  have hb2 : ¬ (cap = i + 1) := by omega
  have hb4 : ¬ (cap = i) := by omega
  go_wp2_with (simp only [hov])
  have mixed : Try.prog.follows .mixedOrders = true := by kernel_rfl
  go_region_law_o (refine step_copy_runI rfl _ _ 73 73 rfl _ _ (by simp [Act.eval, Act.put]) (by simp [Act.eval, Act.put]) (hcp1 _ _ _) ?_)
  go_wp2_with (at_builtin; refine wpList_copy_runI _ rfl _ _ 73 73 rfl _ _ rfl rfl (hcp2 _ (fun _ => rfl) (fun _ => rfl) _ _) ?_)
  go_ret
  first | exact ⟨rfl, rfl⟩ | exact ⟨rfl, by rw [hW1]⟩
end Go.Proofs.Ytmimfhjmhlmibaa.T
