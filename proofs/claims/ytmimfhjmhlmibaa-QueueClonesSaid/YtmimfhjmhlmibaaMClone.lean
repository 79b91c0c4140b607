/- The walks of maps.Clone and of the queue's Clone. -/
import Derived.Test.YtmimfhjmhlmibaaClone
namespace Go.Proofs.Ytmimfhjmhlmibaa
open Go.RowKit Go.MapKept Go.ChangeMaps
set_option linter.unusedVariables false
attribute [local go_sem ↓] Go.wp_at_zero Go.wp_at_succ

/-- a clone of a map -/
def MCloned (d : TypeDesc) (f : Value → Option Value) (w : World) (e : Ending) (w' : World) : Prop := ∃ m : Nat, e = .returned (.map (some m)) ∧ Mp d w' m f ∧ w.heap.size ≤ m ∧ Below w.heap.size w w'

set_option maxRecDepth 100000 in
set_option maxHeartbeats 2000000 in
theorem mclone_keys (b : Nat) (f : Value → Option Value) (w : World) (h : Mp .string w b f) :
    Calls Try.prog 52 #[.map (some b)] w (MCloned .string f w) := by
  obtain ⟨w', hrun, ⟨o, ho⟩, hm⟩ := h.clone (P := Try.prog) (t' := 71)
  have hcl : (callFunc 63 #[.iface 71 (.map (some b))]).run Try.prog w = .ok (.value (.iface 71 (.map (some w.heap.size)))) w' := by
    rw [run_callFunc_extern Try.func63 (by kernel_rfl) (by kernel_rfl) (by kernel_rfl) (e := Extern.MapsClone.clone) (by kernel_rfl), hrun]
    rfl
  have hnil : ∀ (w : World) (r : Option Nat), (binOp .eql 71 (.map r) (.map none)).run Try.prog w = .ok (.bool r.isNone) w := fun w r => run_eql_map_nil w _ _ _ r und_keys
  have hta : ∀ T : TypeId, (Instr.typeAssert (.iface 71 (.map (some w.heap.size))) T 71 false).run Try.prog w' = .ok (.map (some w.heap.size)) w' := fun T => by simp [Instr.typeAssert, run_underlying und_keys, Result.andThen]
  have fin := Lib.hid (show MCloned .string f w (.returned (.map (some w.heap.size))) w' from ⟨_, rfl, hm, Nat.le_refl _, by rw [ho]; exact (Below.refl _ _).alloc (Nat.le_refl _) _⟩)
  clear h ho hm hrun
  go_enter Try.func52, Try.ntmps52
  go_wp2_with (simp only [hcl])
  go_ret
  exact fin.out
set_option maxRecDepth 100000 in
set_option maxHeartbeats 2000000 in
theorem mclone_used (b : Nat) (f : Value → Option Value) (w : World) (h : Mp (.int .i64) w b f) :
    Calls Try.prog 53 #[.map (some b)] w (MCloned (.int .i64) f w) := by
  obtain ⟨w', hrun, ⟨o, ho⟩, hm⟩ := h.clone (P := Try.prog) (t' := 72)
  have hcl : (callFunc 63 #[.iface 72 (.map (some b))]).run Try.prog w = .ok (.value (.iface 72 (.map (some w.heap.size)))) w' := by
    rw [run_callFunc_extern Try.func63 (by kernel_rfl) (by kernel_rfl) (by kernel_rfl) (e := Extern.MapsClone.clone) (by kernel_rfl), hrun]
    rfl
  have hnil : ∀ (w : World) (r : Option Nat), (binOp .eql 72 (.map r) (.map none)).run Try.prog w = .ok (.bool r.isNone) w := fun w r => run_eql_map_nil w _ _ _ r und_used
  have hta : ∀ T : TypeId, (Instr.typeAssert (.iface 72 (.map (some w.heap.size))) T 72 false).run Try.prog w' = .ok (.map (some w.heap.size)) w' := fun T => by simp [Instr.typeAssert, run_underlying und_used, Result.andThen]
  have fin := Lib.hid (show MCloned (.int .i64) f w (.returned (.map (some w.heap.size))) w' from ⟨_, rfl, hm, Nat.le_refl _, by rw [ho]; exact (Below.refl _ _).alloc (Nat.le_refl _) _⟩)
  clear h ho hm hrun
  go_enter Try.func53, Try.ntmps53
  go_wp2_with (simp only [hcl])
  go_ret
  exact fin.out

/-- a clone of a queue, of the call's own -/
def QCloned (l : List E) (w : World) (e : Ending) (w' : World) : Prop := ∃ q : Nat, e = .returned (.pointer (some ⟨q, 0, none⟩)) ∧ Own w.heap.size w w' q l
set_option maxRecDepth 100000 in
set_option maxHeartbeats 8000000 in
theorem qclone_any (q g m1 m2 : Nat) (l : List E) (w : World) (h : Qu w q g m1 m2 l) (hl : l.length ≤ 60000) :
    Calls Try.prog 30 #[.pointer (some ⟨q, 0, none⟩)] w (QCloned l w) := by
  have H := Lib.hid h
  obtain ⟨A, cap, hA, hr, hc⟩ := h.body
  have hqw := h.qlt
  have hgw := h.row
  have q0 : w.cell? ⟨q, 0, none⟩ = some (.slice A l.length cap) := hA.cell 0
  have q1 : w.cell? ⟨q, 1, none⟩ = some (.map (some m1)) := hA.cell 1
  have q2 : w.cell? ⟨q, 2, none⟩ = some (.map (some m2)) := hA.cell 2
  have hS : ∀ W, Below w.heap.size w W → (W.cell? ⟨q, 0, none⟩ = some (.slice A l.length cap) ∧ W.cell? ⟨q, 1, none⟩ = some (.map (some m1)) ∧ W.cell? ⟨q, 2, none⟩ = some (.map (some m2)) ∧ Below w.heap.size w W) := fun W hb =>
    ⟨(hb.cell (p := ⟨q, 0, none⟩) hqw).trans q0, (hb.cell (p := ⟨q, 1, none⟩) hqw).trans q1, (hb.cell (p := ⟨q, 2, none⟩) hqw).trans q2, hb⟩
  have HS := Lib.hid hS
  have HR := Lib.hid hr
  clear h hA hr hS
  go_enter Try.func30, Try.ntmps30
  go_wp2_with fail
  go_region_held3 (fun W => W.cell? ⟨q, 0, none⟩ = some (.slice A l.length cap) ∧ W.cell? ⟨q, 1, none⟩ = some (.map (some m1)) ∧ W.cell? ⟨q, 2, none⟩ = some (.map (some m2)) ∧ Below w.heap.size w W)
    (first | exact HS.out _ (Below.refl _ _).drew | exact HS.out _ nC | exact HS.out _ nB | exact HS.out _ nA | exact HS.out _ (nC.alloc nC.size _))
    (first
      | (go_at_call 44; obtain ⟨-, -, -, sB⟩ := ‹_ ∧ _ ∧ _ ∧ Below w.heap.size w _›; refine (clone_any A g cap l _ (HR.out.keep (Z := fun _ => False) (.of sB) id) (Nat.lt_of_lt_of_le hgw sB.size) hl).mono ?_; rintro e w2 ⟨A', g', cap', rfl, hr', hge', hcap', hb'⟩; have nA := bstep sB hb'; have hsA := sB.size; clear sB hb')
      | (go_at_call 52; obtain ⟨-, -, -, sB⟩ := ‹_ ∧ _ ∧ _ ∧ Below w.heap.size w _›; refine (mclone_keys m1 _ _ (H.out.keys.keep (Z := fun _ => False) (.of sB) id)).mono ?_; rintro e w3 ⟨m1', rfl, hm1', hge1, hb'⟩; have nB := bstep sB hb'; have hbB := hb'; have hsB := sB.size; clear sB hb')
      | (go_at_call 53; obtain ⟨-, -, -, sB⟩ := ‹_ ∧ _ ∧ _ ∧ Below w.heap.size w _›; refine (mclone_used m2 _ _ (H.out.used.keep (Z := fun _ => False) (.of sB) id)).mono ?_; rintro e w4 ⟨m2', rfl, hm2', hge2, hb'⟩; have nC := bstep sB hb'; have hbC := hb'; have hsC := sB.size; clear sB hb'))
  go_wp2_with fail
  go_ret
  have hqn := At.new w4 90 #[.slice A' l.length cap', .map (some m1'), .map (some m2')]
  have hbf : Below w4.heap.size w4 (w4.alloc (.cells #[.slice A' l.length cap', .map (some m1'), .map (some m2')] 90)) := (Below.refl _ _).alloc (Nat.le_refl _) _
  have hw : ∀ {a b : World}, Below a.heap.size a b → Keep (fun _ => False) a b := fun h => .of h
  have hr4 := ((hr'.keep (hw hbB) id).keep (hw hbC) id).keep (hw hbf) id
  have hk4 := (hm1'.keep (hw hbC) id).keep (hw hbf) id
  have hu4 := hm2'.keep (hw hbf) id
  have z2 : w.heap.size ≤ w2.heap.size := nA.size
  have z3 : w2.heap.size ≤ w3.heap.size := hbB.size
  have z4 : w3.heap.size ≤ w4.heap.size := hbC.size
  have l1 := hm1'.lt
  have two : m1' ≠ m2' := by omega
  have hfin := bstep nC hbf
  have hszf : (w4.alloc (.cells #[.slice A' l.length cap', .map (some m1'), .map (some m2')] 90)).heap.size = w4.heap.size + 1 := by simp
  refine ⟨w4.heap.size, rfl, ?_⟩
  rcases hr4 with ⟨h1, h2, h3⟩ | ⟨h1, h2⟩
  · refine ⟨w4.heap.size, m1', m2', ⟨⟨A', cap', hqn, .inl ⟨h1, h2, h3⟩, hcap'⟩, hk4, hu4, two, by omega, H.out.good⟩, ?_, hfin, by omega⟩
    rintro r (rfl | rfl | rfl | rfl) <;> omega
  · have hg2 : w.heap.size ≤ g' := hge' (by rw [h1]; simp)
    refine ⟨g', m1', m2', ⟨⟨A', cap', hqn, .inr ⟨h1, h2⟩, hcap'⟩, hk4, hu4, two, h2.lt, H.out.good⟩, ?_, hfin, by omega⟩
    rintro r (rfl | rfl | rfl | rfl) <;> omega
end Go.Proofs.Ytmimfhjmhlmibaa
