/- The queue's memory, and the walk of index. -/
import Derived.Test.YtmimfhjmhlmibaaSearch
import Derived.Test.YtmimfhjmhlmibaaMaps
namespace Go.Proofs.Ytmimfhjmhlmibaa
open Go.RowKit Go.MapKept
set_option linter.unusedVariables false
attribute [local go_sem ↓] Go.wp_at_zero Go.wp_at_succ

open Classical in
noncomputable def keysOf (l : List E) : Value → Option Value := fun v => (l.find? (fun e => decide (Value.string e.id = v))).map (fun e => .agg #[.int .i64 e.p, .int .i64 e.s])
open Classical in
noncomputable def usedOf (l : List E) : Value → Option Value := fun v => (l.find? (fun e => decide (Value.int .i64 e.s = v))).map (fun _ => .bool true)

set_option maxHeartbeats 1000000 in
theorem und_keys : Try.prog.underlying 71 = some (.map 9 25) := Try.underlying71
theorem und_used : Try.prog.underlying 72 = some (.map 3 4) := Try.underlying72
theorem und_string : Try.prog.underlying 9 = some .string := Try.underlying9
theorem und_int : Try.prog.underlying 3 = some (.int .i64) := Try.underlying3
theorem zero_key (w : World) : (zeroValue 25).run Try.prog w = .ok (.agg #[.int .i64 0, .int .i64 0]) w := by go_simp
theorem zero_bool (w : World) : (zeroValue 4).run Try.prog w = .ok (.bool false) w := by go_simp
theorem keysOf_some {l : List E} {i : ByteArray} {x : E} (h : l.find? (fun e => decide (e.id = i)) = some x) : keysOf l (.string i) = some (.agg #[.int .i64 x.p, .int .i64 x.s]) := by
  unfold keysOf
  simp [h]
theorem keysOf_none {l : List E} {i : ByteArray} (h : l.find? (fun e => decide (e.id = i)) = none) : keysOf l (.string i) = none := by
  unfold keysOf
  simp at h ⊢
  exact h

/-- what index answers -/
noncomputable def indexOf (l : List E) (i : ByteArray) : Ending := match l.find? (fun e => decide (e.id = i)) with
  | some x => .returned (.tuple #[.int .i64 (lb x.p x.s l : Nat), .int .i64 0])
  | none => .returned (.tuple #[.int .i64 0, .int .i64 9])

set_option maxRecDepth 100000 in
theorem index_any (q g cap m1 m2 : Nat) (A : Option Addr) (l : List E) (i : ByteArray) (w : World) (hs : Sorted l) (hr : Reads w g l) (hg : g < w.heap.size) (hA : 0 < l.length → A = some ⟨g, 0, none⟩) (hl : l.length ≤ 100000)
    (hQ : At w q 90 #[.slice A l.length cap, .map (some m1), .map (some m2)]) (h1 : Mp .string w m1 (keysOf l)) :
    Calls Try.prog 46 #[.pointer (some ⟨q, 0, none⟩), .string i] w fun e w' => e = indexOf l i ∧ Below w.heap.size w w' := by
  have q1 := hQ.cell 1
  simp at q1
  have hq := hQ.lt
  have hf := fun p s W (hW : Below w.heap.size w W) => find_any q g cap A l p s (.map (some m1)) (.map (some m2)) W hs (hr.below hW hg) (Nat.lt_of_lt_of_le hg hW.size) hA hl (hQ.below hW hq)
  have HF := Lib.hid hf
  have hlook := h1.lookup (P := Try.prog) (k := .string i) und_keys und_string trivial (zero_key w) true
  unfold indexOf
  clear hf hs hr hA hQ h1
  cases hfi : l.find? (fun e => decide (e.id = i)) with
  | none =>
    rw [keysOf_none hfi] at hlook
    simp at hlook
    clear hfi
    go_enter Try.func46, Try.ntmps46
    go_wp2_with fail
    go_ret2
    exact ⟨rfl, (Below.refl _ _).alloc (Nat.le_refl _) _⟩
  | some x =>
    rw [keysOf_some hfi] at hlook
    simp at hlook
    clear hfi
    go_enter Try.func46, Try.ntmps46
    go_wp2_with fail
    have hB1 : Below w.heap.size w (w.alloc (.cells #[.int .i64 x.p, .int .i64 x.s] 25)) := (Below.refl _ _).alloc (Nat.le_refl _) _
    refine (HF.out _ _ _ hB1).mono ?_
    rintro e w2 ⟨rfl, hb2⟩
    go_wp2_with fail
    go_ret2
    exact ⟨rfl, bstep hB1 hb2⟩
end Go.Proofs.Ytmimfhjmhlmibaa
