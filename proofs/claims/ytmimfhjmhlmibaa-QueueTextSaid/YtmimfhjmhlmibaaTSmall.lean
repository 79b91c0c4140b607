/- New of the queue of texts. -/
import Derived.Test.YtmimfhjmhlmibaaTSearch
namespace Go.Proofs.Ytmimfhjmhlmibaa.T
open Go.RowKit Go.MapKept
set_option linter.unusedVariables false
attribute [local go_sem ↓] Go.wp_at_zero Go.wp_at_succ

set_option maxRecDepth 100000 in
theorem new_any (w : World) :
    Calls Try.prog 15 #[] w fun e w' => ∃ q m1 m2 : Nat, e = .returned (.pointer (some ⟨q, 0, none⟩)) ∧ Below w.heap.size w w' ∧ w.heap.size ≤ q ∧ w.heap.size ≤ m1 ∧ w.heap.size ≤ m2 ∧ q ≠ m1 ∧ q ≠ m2 ∧ m1 ≠ m2 ∧
      At w' q 75 #[.slice none 0 0, .map (some m1), .map (some m2)] ∧ Mp .string w' m1 (keysOf []) ∧ Mp (.int .i64) w' m2 (usedOf []) := by
  go_enter Try.func15, Try.ntmps15
  go_wp2_with fail
  rw [makeMap_run]
  go_wp2_with fail
  rw [makeMap_run]
  go_wp2_with fail
  go_ret
  have hB := (((Below.refl w.heap.size w).alloc (Nat.le_refl _) (.map #[] 0)).alloc (by simp) (.map #[] 0))
  have s1 : (w.alloc (.map #[] 0)).heap.size = w.heap.size + 1 := by simp
  have s2 : ((w.alloc (.map #[] 0)).alloc (.map #[] 0)).heap.size = w.heap.size + 1 + 1 := by simp
  have m1 := Mp.made w .string
  have m2 := Mp.made (w.alloc (.map #[] 0)) (.int .i64)
  rw [s1] at m2
  have a := At.new ((w.alloc (.map #[] 0)).alloc (.map #[] 0)) 75 #[.slice none 0 0, .map (some w.heap.size), .map (some (w.heap.size + 1))]
  rw [s2] at a
  exact ⟨w.heap.size + 1 + 1, w.heap.size, w.heap.size + 1, rfl, hB.alloc (by simp; omega) _, by omega, by omega, by omega, by omega, by omega, by omega, a,
    (m1.held (Below.heap_alloc _ _ _ m1.lt)).held (Below.heap_alloc _ _ _ (by rw [s2]; omega)), m2.held (Below.heap_alloc _ _ _ (by rw [s2]; omega))⟩

end Go.Proofs.Ytmimfhjmhlmibaa.T
