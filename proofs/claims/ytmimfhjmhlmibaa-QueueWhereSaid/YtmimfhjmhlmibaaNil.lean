/- The methods of a nil queue. -/
import Derived.Test.YtmimfhjmhlmibaaIterOdd
import Derived.Test.YtmimfhjmhlmibaaOpen
namespace Go.Proofs.Ytmimfhjmhlmibaa
open Go.RowKit Go.MapKept Go.ChangeMaps
set_option linter.unusedVariables false
attribute [local go_sem ↓] Go.wp_at_zero Go.wp_at_succ

theorem nil_len (w : World) : Calls Try.prog 34 #[.pointer none] w fun e w' => e = .returned (.int .i64 0) ∧ w = w' := by
  go_enter Try.func34, Try.ntmps34
  go_wp2_with fail
  go_ret
  exact ⟨rfl, rfl⟩
theorem nil_index (i : ByteArray) (w : World) : Calls Try.prog 46 #[.pointer none, .string i] w fun e w' => e = .returned (.tuple #[.int .i64 0, .int .i64 1]) ∧ w = w' := by
  go_enter Try.func46, Try.ntmps46
  go_wp2_with fail
  go_ret2
  exact ⟨rfl, rfl⟩
set_option maxRecDepth 100000 in
theorem nil_clone (w : World) : Calls Try.prog 30 #[.pointer none] w fun e w' => e = .returned (.pointer none) ∧ w = w' := by
  go_enter Try.func30, Try.ntmps30
  go_wp2_with fail
  go_ret
  exact ⟨rfl, rfl⟩
set_option maxRecDepth 100000 in
theorem nil_add (i : ByteArray) (p s v : Int) (w : World) : Calls Try.prog 25 #[.pointer none, .string i, .agg #[.int .i64 p, .int .i64 s], .int .i64 v] w fun e w' => e = .returned (.int .i64 1) ∧ Below w.heap.size w w' := by
  go_enter Try.func25, Try.ntmps25
  go_wp2_with fail
  go_ret
  exact ⟨rfl, (Below.refl _ _).alloc (Nat.le_refl _) _⟩
set_option maxRecDepth 100000 in
theorem nil_remove (i : ByteArray) (w : World) : Calls Try.prog 23 #[.pointer none, .string i] w fun e w' => e = .returned (.tuple #[.int .i64 0, .int .i64 1]) ∧ w = w' := by
  go_enter Try.func23, Try.ntmps23
  go_wp2_with (go_at_call 46; refine (nil_index _ _).mono ?_; rintro e w' ⟨rfl, rfl⟩)
  go_ret2
  exact ⟨rfl, rfl⟩
set_option maxRecDepth 100000 in
theorem nil_replace (i : ByteArray) (v : Int) (w : World) : Calls Try.prog 33 #[.pointer none, .string i, .int .i64 v] w fun e w' => e = .returned (.int .i64 1) ∧ w = w' := by
  go_enter Try.func33, Try.ntmps33
  go_wp2_with (go_at_call 46; refine (nil_index _ _).mono ?_; rintro e w' ⟨rfl, rfl⟩)
  go_ret
  exact ⟨rfl, rfl⟩
set_option maxRecDepth 100000 in
theorem nil_promote (i : ByteArray) (v : Int) (w : World) : Calls Try.prog 24 #[.pointer none, .string i, .int .i64 v] w fun e w' => e = .returned (.int .i64 1) ∧ w = w' := by
  go_enter Try.func24, Try.ntmps24
  go_wp2_with (go_at_call 46; refine (nil_index _ _).mono ?_; rintro e w' ⟨rfl, rfl⟩)
  go_ret
  exact ⟨rfl, rfl⟩
set_option maxRecDepth 100000 in
theorem nil_position (i : ByteArray) (w : World) : Calls Try.prog 32 #[.pointer none, .string i] w fun e w' => e = .returned (.tuple #[.int .i64 0, .int .i64 1]) ∧ w = w' := by
  go_enter Try.func32, Try.ntmps32
  go_wp2_with (go_at_call 46; refine (nil_index _ _).mono ?_; rintro e w' ⟨rfl, rfl⟩)
  go_ret2
  exact ⟨rfl, rfl⟩
set_option maxRecDepth 100000 in
theorem nil_first (w : World) : Calls Try.prog 31 #[.pointer none] w fun e w' => e = .returned (.tuple #[.string ⟨#[]⟩, .int .i64 0, .bool false]) ∧ w = w' := by
  go_enter Try.func31, Try.ntmps31
  go_wp2_with (go_at_call 34; refine (nil_len _).mono ?_; rintro e w' ⟨rfl, rfl⟩)
  refine bodyPost_ret (v := .tuple #[.string ⟨#[]⟩, .int .i64 0, .bool false]) (by simp [results, Try.results31, go_sem]) rfl ⟨rfl, rfl⟩
set_option maxRecDepth 100000 in
set_option maxHeartbeats 2000000 in
theorem nil_get (i : ByteArray) (w : World) : Calls Try.prog 29 #[.pointer none, .string i] w fun e w' => e = .returned (.tuple #[.int .i64 0, .agg #[.int .i64 0, .int .i64 0], .bool false]) ∧ Below w.heap.size w w' := by
  go_enter Try.func29, Try.ntmps29
  go_wp2_with (go_at_call 46; refine (nil_index _ _).mono ?_; rintro e w' ⟨rfl, rfl⟩)
  exact bodyPost_ret (v := .tuple #[.int .i64 0, .agg #[.int .i64 0, .int .i64 0], .bool false]) (by simp [results, Try.results29, go_sem]) rfl ⟨rfl, (Below.refl _ _).alloc (Nat.le_refl _) _⟩
end Go.Proofs.Ytmimfhjmhlmibaa
