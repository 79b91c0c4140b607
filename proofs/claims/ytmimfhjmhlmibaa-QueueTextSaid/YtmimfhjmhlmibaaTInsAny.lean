/- slices.Insert of the queue of texts, all ways. -/
import Derived.Test.YtmimfhjmhlmibaaTInsertG
namespace Go.Proofs.Ytmimfhjmhlmibaa.T
open Go.RowKit
set_option linter.unusedVariables false

theorem RowAt.push {w : World} {g cap : Nat} {l : List E} (h : RowAt w g cap l) (x : E) (hroom : l.length + 1 ≤ cap) : RowAt (w.setCells g (l.length * 4) (ecells x)) g cap (l ++ [x]) := by
  obtain ⟨pad, h1, h2⟩ := h
  have hl := rows_length l
  rw [List.length_append] at h2
  have e : rows l ++ pad = rows l ++ pad.take 4 ++ pad.drop 4 := by rw [List.append_assoc, List.take_append_drop]
  rw [e] at h1
  have h3 := At.setCells (ecells x) (rows l) (pad.take 4) (pad.drop 4) (by rw [List.length_take]; simp only [ecells, List.length_cons, List.length_nil]; omega) h1
  rw [hl] at h3
  refine ⟨pad.drop 4, ?_, ?_⟩
  · rw [rows_append]
    simpa [rows] using h3
  · rw [rows_append, List.length_append, List.length_append, List.length_drop]
    have h4 : (rows [x]).length = 4 := by rfl
    rw [hl] at h2 ⊢
    rw [h4]
    omega

theorem RowAt.shift {w : World} {g cap i : Nat} {l : List E} (h : RowAt w g cap l) (x : E) (hi : i < l.length) (hroom : l.length + 1 ≤ cap) :
    RowAt ((w.drew.setCells g ((i + 1) * 4) (rows (l.drop i))).setCells g (i * 4) (ecells x)) g cap (l.take i ++ x :: l.drop i) := by
  obtain ⟨pad, h1, h2⟩ := h
  have hl := rows_length l
  have htl : (rows (l.take i)).length = i * 4 := by rw [rows_length, List.length_take]; congr 1; omega
  have hdl : (rows (l.drop i)).length = (l.length - i) * 4 := by rw [rows_length, List.length_drop]
  rw [List.length_append] at h2
  have hR : ((rows (l.drop i)) ++ pad).length = (l.length - i) * 4 + pad.length := by rw [List.length_append, hdl]
  generalize hRe : rows (l.drop i) ++ pad = R at hR
  have e : rows l ++ pad = (rows (l.take i) ++ R.take 4) ++ (R.drop 4).take ((l.length - i) * 4) ++ (R.drop 4).drop ((l.length - i) * 4) := by
    rw [List.append_assoc, List.take_append_drop, List.append_assoc, List.take_append_drop, ← hRe, ← List.append_assoc, ← rows_append, List.take_append_drop]
  rw [e] at h1
  have h4 : (R.take 4).length = 4 := by rw [List.length_take]; omega
  have h3 := At.setCells (rows (l.drop i)) (rows (l.take i) ++ R.take 4) ((R.drop 4).take ((l.length - i) * 4)) ((R.drop 4).drop ((l.length - i) * 4)) (by rw [hdl, List.length_take, List.length_drop]; omega) h1.drew
  rw [List.length_append, htl, h4, show i * 4 + 4 = (i + 1) * 4 by omega, List.append_assoc, List.append_assoc] at h3
  rw [← List.append_assoc] at h3
  have h5 := At.setCells (ecells x) (rows (l.take i)) (R.take 4) (rows (l.drop i) ++ (R.drop 4).drop ((l.length - i) * 4)) (by rw [h4]; rfl) h3
  rw [htl] at h5
  refine ⟨(R.drop 4).drop ((l.length - i) * 4), ?_, ?_⟩
  · simpa [rows] using h5
  · have h6 : (rows (l.take i ++ x :: l.drop i)).length = (l.length + 1) * 4 := by
      rw [rows_length]; simp; omega
    rw [List.length_append, h6, List.length_drop, List.length_drop]
    omega

theorem RowAt.made (w : World) (l : List E) (k G : Nat) (hG : l.length + k = G) :
    RowAt (w.alloc (.cells ((rows l).toArray ++ Builtin.zeroCells (Value.agg #[.string ⟨#[]⟩, .int .i64 0, .int .i64 0, .string ⟨#[]⟩]).cells k) 82)) w.heap.size G l := by
  refine ⟨(Builtin.zeroCells (Value.agg #[.string ⟨#[]⟩, .int .i64 0, .int .i64 0, .string ⟨#[]⟩]).cells k).toList, ?_, ?_⟩
  · have := At.new w 82 ((rows l).toArray ++ Builtin.zeroCells (Value.agg #[.string ⟨#[]⟩, .int .i64 0, .int .i64 0, .string ⟨#[]⟩]).cells k)
    have e : ∀ (a : List Value) (b : Array Value), (a ++ b.toList).toArray = a.toArray ++ b := fun a b => by apply Array.ext'; simp
    rw [e]
    exact this
  · rw [List.length_append, rows_length]
    simp [Builtin.zeroCells, Value.cells]
    omega

theorem RowAt.keep {Z : Nat → Prop} {w w' : World} {g cap : Nat} {l : List E} (h : RowAt w g cap l) (k : Keep Z w w') (hz : ¬ Z g) : RowAt w' g cap l := by
  obtain ⟨pad, h1, h2⟩ := h
  exact ⟨pad, h1.keep k hz, h2⟩
theorem RowAt.held {w w' : World} {g cap : Nat} {l : List E} (h : RowAt w g cap l) (e : w'.heap[g]? = w.heap[g]?) : RowAt w' g cap l := by
  obtain ⟨pad, h1, h2⟩ := h
  exact ⟨pad, e.trans h1, h2⟩
/-- a slice of items: nil, or a row -/
def Rw (w : World) (A : Option Addr) (g cap : Nat) (l : List E) : Prop := (A = none ∧ l = [] ∧ cap = 0) ∨ (A = some ⟨g, 0, none⟩ ∧ RowAt w g cap l)
/-- what Insert leaves -/
def Ins (A : Option Addr) (g i : Nat) (x : E) (l : List E) (w : World) (e : Ending) (w' : World) : Prop :=
  ∃ g' cap' : Nat, e = .returned (.slice (some ⟨g', 0, none⟩) (l.length + 1) cap') ∧ RowAt w' g' cap' (l.take i ++ x :: l.drop i) ∧ cap' ≤ 9223372036854775807 ∧ (A ≠ none ∧ g' = g ∨ w.heap.size ≤ g') ∧ Keep (fun r => A ≠ none ∧ r = g) w w'
theorem RowAt.grown (w : World) (l : List E) (x : E) (i G : Nat) (hi : i < l.length) (hG : l.length + 1 ≤ G) :
    RowAt ((((w.alloc (.cells ((rows (l.take i)).toArray ++ Builtin.zeroCells (Value.agg #[.string ⟨#[]⟩, .int .i64 0, .int .i64 0, .string ⟨#[]⟩]).cells (l.length + 1 - i) ++ Builtin.zeroCells (Value.agg #[.string ⟨#[]⟩, .int .i64 0, .int .i64 0, .string ⟨#[]⟩]).cells (G - (l.length + 1))) 82)).drew.setCells w.heap.size (i * 4) (ecells x)).drew).setCells w.heap.size ((i + 1) * 4) (rows (l.drop i))) w.heap.size G (l.take i ++ x :: l.drop i) := by
  have htl : (rows (l.take i)).length = i * 4 := by rw [rows_length, List.length_take]; congr 1; omega
  have hdl : (rows (l.drop i)).length = (l.length - i) * 4 := by rw [rows_length, List.length_drop]
  have hz : ∀ n, (Builtin.zeroCells (Value.agg #[.string ⟨#[]⟩, .int .i64 0, .int .i64 0, .string ⟨#[]⟩]).cells n).toList.length = n * 4 := fun n => by simp [Builtin.zeroCells, Value.cells]
  generalize hZ1 : (Builtin.zeroCells (Value.agg #[.string ⟨#[]⟩, .int .i64 0, .int .i64 0, .string ⟨#[]⟩]).cells (l.length + 1 - i)) = Z1
  generalize hZ2 : (Builtin.zeroCells (Value.agg #[.string ⟨#[]⟩, .int .i64 0, .int .i64 0, .string ⟨#[]⟩]).cells (G - (l.length + 1))) = Z2
  have hz1 := hz (l.length + 1 - i)
  have hz2 := hz (G - (l.length + 1))
  rw [hZ1] at hz1
  rw [hZ2] at hz2
  have h0 := At.new w 82 ((rows (l.take i)).toArray ++ Z1 ++ Z2)
  have e : (rows (l.take i)).toArray ++ Z1 ++ Z2 = (rows (l.take i) ++ Z1.toList.take 4 ++ (Z1.toList.drop 4 ++ Z2.toList)).toArray := by
    apply Array.ext'
    simp
    rw [← List.append_assoc, List.take_append_drop]
  rw [e] at h0
  have h3 := At.setCells (ecells x) (rows (l.take i)) (Z1.toList.take 4) (Z1.toList.drop 4 ++ Z2.toList) (by rw [List.length_take, hz1]; simp only [ecells, List.length_cons, List.length_nil]; omega) h0.drew
  rw [htl] at h3
  have h3' := h3.drew
  rw [← List.append_assoc (rows (l.take i) ++ ecells x)] at h3'
  have h5 := At.setCells (rows (l.drop i)) (rows (l.take i) ++ ecells x) (Z1.toList.drop 4) Z2.toList (by rw [hdl, List.length_drop, hz1]; omega) h3'
  have hx : (ecells x).length = 4 := by rfl
  rw [List.length_append, htl, hx, show i * 4 + 4 = (i + 1) * 4 by omega] at h5
  rw [e]
  refine ⟨Z2.toList, ?_, ?_⟩
  · simpa [rows] using h5
  · have h6 : (rows (l.take i ++ x :: l.drop i)).length = (l.length + 1) * 4 := by
      rw [rows_length]; simp; omega
    rw [List.length_append, h6, hz2]
    omega

theorem insert_any (A : Option Addr) (g cap vb i : Nat) (tA : TypeId) (l : List E) (x : E) (w : World) (hi : i ≤ l.length) (hl : l.length ≤ 100000) (hc : cap ≤ 9223372036854775807) (hvb : vb ≠ g) (hr : Rw w A g cap l) (hv : At w vb tA (ecells x).toArray) :
    Calls Try.prog 55 #[.slice A l.length cap, .int .i64 (i : Nat), .slice (some ⟨vb, 0, none⟩) 1 1] w (Ins A g i x l w) := by
  have hcell : ∀ (j : Nat) u, (ecells x)[j]? = some u → w.cell? ⟨vb, j, none⟩ = some u := fun j u hj => by rw [hv.cell]; simpa using hj
  have hcap : l.length ≤ cap := by
    rcases hr with ⟨rfl, rfl, rfl⟩ | ⟨rfl, pad, h1, h2⟩
    · exact Nat.le_refl _
    · rw [List.length_append, rows_length] at h2; omega
  by_cases hend : i = l.length
  · subst hend
    have et : l.take l.length ++ x :: l.drop l.length = l ++ [x] := by simp
    by_cases hroom : l.length + 1 ≤ cap
    · rcases hr with ⟨rfl, rfl, rfl⟩ | ⟨rfl, hr⟩
      · simp at hroom
      · refine (insert_end_room g cap vb l x w hl hroom hc hr hcell).mono ?_
        rintro e w' ⟨rfl, rfl⟩
        exact ⟨g, cap, rfl, by rw [et]; exact hr.push x hroom, hc, .inl ⟨by simp, rfl⟩, (Keep.cells1 _ _ _ _).sure⟩
    · refine (insert_end_grow A g cap vb l x w hl hcap (by omega) (by rcases hr with ⟨a, b, c⟩ | h; exact .inl ⟨a, b⟩; exact .inr h) hcell).mono ?_
      rintro e w' ⟨rfl, rfl⟩
      refine ⟨w.heap.size, _, rfl, ?_, grown_bound _ _ _ _ (by omega), .inr (Nat.le_refl _), .of (((Below.refl _ _).drew).alloc (Nat.le_refl _) _)⟩
      rw [et]
      have := RowAt.made w.drew (l ++ [x]) (grownCap w (l.length + 1) cap 82 - (l.length + 1)) (grownCap w (l.length + 1) cap 82) (by have := grownCap_ge w (l.length + 1) cap 82; simp; omega)
      have e1 : rows (l ++ [x]) = rows l ++ ecells x := by rw [rows_append]; simp [rows]
      rw [e1] at this
      exact this
  · have hlt : i < l.length := by omega
    rcases hr with ⟨rfl, rfl, rfl⟩ | ⟨rfl, hr⟩
    · simp at hlt
    · by_cases hroom : l.length + 1 ≤ cap
      · refine (insert_shift g cap vb i tA l x w hlt hl hroom hc hvb hr hv).mono ?_
        rintro e w' ⟨rfl, rfl⟩
        exact ⟨g, cap, rfl, hr.shift x hlt hroom, hc, .inl ⟨by simp, rfl⟩, (((Keep.drew _ _).trans (Keep.cells1 _ _ _ _)).trans (Keep.cells1 _ _ _ _)).sure⟩
      · refine (insert_grow g cap vb i tA l x w hlt hl hcap (by omega) hvb hr hv).mono ?_
        rintro e w' ⟨rfl, rfl⟩
        refine ⟨w.heap.size, _, rfl, RowAt.grown w l x i _ hlt (grownCap_ge _ _ _ _), grown_bound _ _ _ _ (by omega), .inr (Nat.le_refl _), ?_⟩
        refine Keep.mono (Z := (· = w.heap.size)) ?_ (fun r hr' h => absurd hr' (by omega))
        exact ((((Keep.alloc _ _ _).trans (Keep.drew _ _)).trans (Keep.cells1 _ _ _ _)).trans (Keep.drew _ _)).trans (Keep.cells1 _ _ _ _)
end Go.Proofs.Ytmimfhjmhlmibaa.T
