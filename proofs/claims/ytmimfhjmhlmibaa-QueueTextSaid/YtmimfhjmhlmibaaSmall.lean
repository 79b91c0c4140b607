/- The walks of Len, First, Position, New. -/
import Derived.Test.YtmimfhjmhlmibaaIndex
namespace Go.Proofs.Ytmimfhjmhlmibaa
open Go.RowKit Go.MapKept
set_option linter.unusedVariables false
attribute [local go_sem ↓] Go.wp_at_zero Go.wp_at_succ

set_option maxRecDepth 100000 in
theorem len_any (q cap : Nat) (n : Nat) (m1 m2 : Value) (A : Option Addr) (w : World) (hQ : At w q 90 #[.slice A n cap, m1, m2]) :
    Calls Try.prog 34 #[.pointer (some ⟨q, 0, none⟩)] w fun e w' => e = .returned (.int .i64 (n : Int)) ∧ w' = w := by
  have q0 := hQ.cell 0
  simp at q0
  go_enter Try.func34, Try.ntmps34
  go_wp2_with fail
  go_ret
  exact ⟨rfl, rfl⟩

set_option maxRecDepth 100000 in
theorem position_any (q g cap m1 m2 : Nat) (A : Option Addr) (l : List E) (i : ByteArray) (w : World) (hs : Sorted l) (hr : Reads w g l) (hg : g < w.heap.size) (hA : 0 < l.length → A = some ⟨g, 0, none⟩) (hl : l.length ≤ 100000)
    (hQ : At w q 90 #[.slice A l.length cap, .map (some m1), .map (some m2)]) (h1 : Mp .string w m1 (keysOf l)) :
    Calls Try.prog 32 #[.pointer (some ⟨q, 0, none⟩), .string i] w fun e w' => e = indexOf l i ∧ Below w.heap.size w w' := by
  have H := Lib.hid (index_any q g cap m1 m2 A l i w hs hr hg hA hl hQ h1)
  clear hs hr hA hQ h1
  go_enter Try.func32, Try.ntmps32
  go_wp2_with fail
  refine H.out.mono ?_
  rintro e w2 ⟨rfl, hb2⟩
  have HI := Lib.hid (Eq.refl (indexOf l i))
  cases hfi : l.find? (fun e => decide (e.id = i)) with
  | none =>
    have he : indexOf l i = .returned (.tuple #[.int .i64 0, .int .i64 9]) := by unfold indexOf; rw [hfi]
    rw [he]
    go_wp2_with fail
    go_ret2
    exact ⟨he.symm ▸ rfl, hb2⟩
  | some x =>
    have he : indexOf l i = .returned (.tuple #[.int .i64 (lb x.p x.s l : Nat), .int .i64 0]) := by unfold indexOf; rw [hfi]
    rw [he]
    go_wp2_with fail
    go_ret2
    exact ⟨he.symm ▸ rfl, hb2⟩

theorem makeMap_run (P : Program) (t : TypeId) (w : World) : (Instr.makeMap t none).run P w = .ok (.map (some w.heap.size)) (w.alloc (.map #[] 0)) := by
  simp [Instr.makeMap, Result.andThen]

set_option maxRecDepth 100000 in
theorem new_any (w : World) :
    Calls Try.prog 26 #[] w fun e w' => ∃ q m1 m2 : Nat, e = .returned (.pointer (some ⟨q, 0, none⟩)) ∧ Below w.heap.size w w' ∧ w.heap.size ≤ q ∧ w.heap.size ≤ m1 ∧ w.heap.size ≤ m2 ∧ q ≠ m1 ∧ q ≠ m2 ∧ m1 ≠ m2 ∧
      At w' q 90 #[.slice none 0 0, .map (some m1), .map (some m2)] ∧ Mp .string w' m1 (keysOf []) ∧ Mp (.int .i64) w' m2 (usedOf []) := by
  go_enter Try.func26, Try.ntmps26
  go_wp2_with fail
  rw [makeMap_run]
  go_wp2_with fail
  rw [makeMap_run]
  go_wp2_with fail
  go_ret
  have hB := (((Below.refl w.heap.size w).alloc (Nat.le_refl _) (.map #[] 0)).alloc (by simp) (.map #[] 0))
  have s1 : (w.alloc (.map #[] 0)).heap.size = w.heap.size + 1 := by simp
  have s2 : ((w.alloc (.map #[] 0)).alloc (.map #[] 0)).heap.size = w.heap.size + 1 + 1 := by simp
  have m1 := Mp.made w .string
  have m2 := Mp.made (w.alloc (.map #[] 0)) (.int .i64)
  rw [s1] at m2
  have a := At.new ((w.alloc (.map #[] 0)).alloc (.map #[] 0)) 90 #[.slice none 0 0, .map (some w.heap.size), .map (some (w.heap.size + 1))]
  rw [s2] at a
  exact ⟨w.heap.size + 1 + 1, w.heap.size, w.heap.size + 1, rfl, hB.alloc (by simp; omega) _, by omega, by omega, by omega, by omega, by omega, by omega, a,
    (m1.held (Below.heap_alloc _ _ _ m1.lt)).held (Below.heap_alloc _ _ _ (by rw [s2]; omega)), m2.held (Below.heap_alloc _ _ _ (by rw [s2]; omega))⟩

/-- what First answers -/
def firstOf : List E → Ending
  | [] => .returned (.tuple #[.string ⟨#[]⟩, .int .i64 0, .bool false])
  | x :: _ => .returned (.tuple #[.string x.id, .int .i64 x.v, .bool true])

set_option maxRecDepth 100000 in
theorem first_any (q g cap : Nat) (l : List E) (m1 m2 : Value) (A : Option Addr) (w : World) (hr : Reads w g l) (hg : g < w.heap.size) (hA : 0 < l.length → A = some ⟨g, 0, none⟩) (hQ : At w q 90 #[.slice A l.length cap, m1, m2]) :
    Calls Try.prog 31 #[.pointer (some ⟨q, 0, none⟩)] w fun e w' => e = firstOf l ∧ Below w.heap.size w w' := by
  have q0 := hQ.cell 0
  simp at q0
  have H := Lib.hid (len_any q cap l.length m1 m2 A w hQ)
  have hq := hQ.lt
  cases l with
  | nil =>
    go_enter Try.func31, Try.ntmps31
    go_wp2_with fail
    refine H.out.mono ?_
    rintro e w2 ⟨rfl, rfl⟩
    go_wp2_with fail
    refine bodyPost_ret (v := .tuple #[.string ⟨#[]⟩, .int .i64 0, .bool false]) (by simp [results, Try.results31, go_sem]) rfl ⟨rfl, Below.refl _ _⟩
  | cons x l =>
    obtain rfl := hA (Nat.succ_pos _)
    obtain ⟨c0, c1, c2, c3⟩ : w.cell? ⟨g, 0, none⟩ = some (.string x.id) ∧ w.cell? ⟨g, 1, none⟩ = some (.int .i64 x.p) ∧ w.cell? ⟨g, 2, none⟩ = some (.int .i64 x.s) ∧ w.cell? ⟨g, 3, none⟩ = some (.int .i64 x.v) := by simpa using hr 0 (Nat.succ_pos _)
    clear hr
    have hn0 : (0 : Int) < ((x :: l).length : Int) := by simp
    have hn1 : (((x :: l).length : Int) == 0) = false := by simp; omega
    go_enter Try.func31, Try.ntmps31
    go_wp2_with fail
    refine H.out.mono ?_
    rintro e w2 ⟨rfl, rfl⟩
    go_wp2_with fail
    go_region_held3 (fun w' => w'.cell? ⟨q, 0, none⟩ = some (.slice (some ⟨g, 0, none⟩) (x :: l).length cap) ∧ w'.cell? ⟨g, 0, none⟩ = some (.string x.id) ∧ w'.cell? ⟨g, 3, none⟩ = some (.int .i64 x.v) ∧ Below w2.heap.size w2 w') (first | exact ⟨q0, c0, c3, (Below.refl _ _).drew⟩ | assumption) (fail)
    go_wp2_with fail
    refine bodyPost_ret (v := .tuple #[.string x.id, .int .i64 x.v, .bool true]) (by simp [results, Try.results31, go_sem]) rfl ⟨rfl, ?_⟩
    exact ‹_ ∧ _ ∧ _ ∧ Below _ _ _›.2.2.2

end Go.Proofs.Ytmimfhjmhlmibaa
