/- The walk of do: an operation on a queue and on the reference's list. -/
import Derived.Test.YtmimfhjmhlmibaaRefI
namespace Go.Proofs.Ytmimfhjmhlmibaa
open Go.RowKit Go.MapKept Go.ChangeMaps
set_option linter.unusedVariables false
attribute [local go_sem ↓] Go.wp_at_zero Go.wp_at_succ

/-- what an operation leaves -/
noncomputable def stepP (k : Int) (x : E) (l : List E) : List E :=
  if k % 4 = 0 then (addP x l).1 else if k % 4 = 1 then (remvP x.id l).1 else if k % 4 = 2 then (replP x.id x.v l).1 else (promP x.id x.p l).1
/-- a queue and a list of the reference's that hold the same items, in memory apart -/
structure Both (w : World) (q g m1 m2 : Nat) (v : Value) (l : List E) : Prop where
  qu : Qu w q g m1 m2 l
  rl : RL w v l
  off : Off (ZQ q g m1 m2) v
/-- what an operation on both leaves -/
def Did (q g m1 m2 : Nat) (v : Value) (l' : List E) (w : World) (e : Ending) (w' : World) : Prop :=
  ∃ (v' : Value) (g' : Nat), e = .returned (.tuple #[v', .bool true]) ∧ Both w' q g' m1 m2 v' l' ∧ (g' = g ∨ w.heap.size ≤ g') ∧ (∀ b, v'.ownBlock = some b → v.ownBlock = some b ∨ w.heap.size ≤ b) ∧ Keep (ZQ q g m1 m2) w w'
/-- the reference's turn first, then the queue's -/
theorem did_of {w w1 w2 : World} {q g m1 m2 : Nat} {v v' : Value} {l l' : List E} (h : Both w q g m1 m2 v l) (hr : RL w1 v' l') (hv : ∀ b, v'.ownBlock = some b → v.ownBlock = some b ∨ w.heap.size ≤ b) (hb : Below w.heap.size w w1)
    (hq : ∃ g', Qu w2 q g' m1 m2 l' ∧ (g' = g ∨ w1.heap.size ≤ g') ∧ Keep (ZQ q g m1 m2) w1 w2) : Did q g m1 m2 v l' w (.returned (.tuple #[v', .bool true])) w2 := by
  obtain ⟨g', hq, hg', hk⟩ := hq
  have hoff : Off (ZQ q g m1 m2) v' := fun b hb' hz => by
    rcases hv b hb' with h1 | h1
    · exact h.off b h1 hz
    · have := h.qu.zlt b hz; omega
  refine ⟨v', g', rfl, ⟨hq, hr.keep hk hoff, ?_⟩, ?_, hv, (Keep.of hb).trans hk⟩
  · intro b hb' hz
    have hlt := hr.lt b hb'
    rcases hz with rfl | rfl | rfl | rfl
    · exact hoff _ hb' (.inl rfl)
    · rcases hg' with rfl | h1
      · exact hoff _ hb' (.inr (.inl rfl))
      · omega
    · exact hoff _ hb' (.inr (.inr (.inl rfl)))
    · exact hoff _ hb' (.inr (.inr (.inr rfl)))
  · rcases hg' with h1 | h1
    · exact .inl h1
    · exact .inr (Nat.le_trans hb.size h1)

set_option maxRecDepth 100000 in
set_option maxHeartbeats 8000000 in
theorem do_add (q g m1 m2 : Nat) (v : Value) (l : List E) (k : Int) (x : E) (w : World) (h : Both w q g m1 m2 v l) (hl : l.length ≤ 60000) (hk0 : 0 ≤ k) (hk1 : k ≤ 255) (hk : k % 4 = 0) :
    Calls Try.prog 27 #[.pointer (some ⟨q, 0, none⟩), v, .agg #[.int .u8 k, .string x.id, .int .i64 x.p, .int .i64 x.s, .int .i64 x.v]] w (Did q g m1 m2 v (addP x l).1 w) := by
  have H := Lib.hid h
  have hB0 : Below w.heap.size w (w.alloc (.cells #[.int .u8 k, .string x.id, .int .i64 x.p, .int .i64 x.s, .int .i64 x.v] 35)) := (Below.refl _ _).alloc (Nat.le_refl _) _
  have hK0 := At.new w 35 #[.int .u8 k, .string x.id, .int .i64 x.p, .int .i64 x.s, .int .i64 x.v]
  have HB := Lib.hid hB0
  have hr1 := Lib.hid (radd_any v l x _ (h.rl.below hB0) hl)
  clear h hB0
  go_enter Try.func27, Try.ntmps27
  go_wp2_with fail
  refine hr1.out.mono ?_
  rintro e w1 ⟨v', rfl, hrl, hv, hb⟩
  have hK1 := hK0.below hb hK0.lt
  have hbb := bstep HB.out hb
  have k1 : w1.cell? ⟨w.heap.size, 1, none⟩ = some (.string x.id) := hK1.cell 1
  have k2 : w1.cell? ⟨w.heap.size, 2, none⟩ = some (.int .i64 x.p) := hK1.cell 2
  have k3 : w1.cell? ⟨w.heap.size, 3, none⟩ = some (.int .i64 x.s) := hK1.cell 3
  have k4 : w1.cell? ⟨w.heap.size, 4, none⟩ = some (.int .i64 x.v) := hK1.cell 4
  have HRL := Lib.hid hrl
  have HV := Lib.hid hv
  have HBB := Lib.hid hbb
  have hsz := HB.out.size
  clear hrl hv hb hbb hK0 hK1
  go_wp2_with fail
  refine (add_any q g m1 m2 l x w1 (H.out.qu.below HBB.out) hl).mono ?_
  rintro e w2 ⟨rfl, hq⟩
  have HQ := Lib.hid hq
  clear hq
  go_wp2_with fail
  go_ret2
  refine did_of H.out HRL.out (fun b hb => ?_) HBB.out HQ.out
  rcases HV.out b hb with h | h
  · exact .inl h
  · exact .inr (Nat.le_trans hsz h)
set_option maxRecDepth 100000 in
set_option maxHeartbeats 8000000 in
theorem do_remv (q g m1 m2 : Nat) (v : Value) (l : List E) (k : Int) (x : E) (w : World) (h : Both w q g m1 m2 v l) (hl : l.length ≤ 60000) (hk0 : 0 ≤ k) (hk1 : k ≤ 255) (hk : k % 4 = 1) :
    Calls Try.prog 27 #[.pointer (some ⟨q, 0, none⟩), v, .agg #[.int .u8 k, .string x.id, .int .i64 x.p, .int .i64 x.s, .int .i64 x.v]] w (Did q g m1 m2 v (remvP x.id l).1 w) := by
  have H := Lib.hid h
  have hB0 : Below w.heap.size w (w.alloc (.cells #[.int .u8 k, .string x.id, .int .i64 x.p, .int .i64 x.s, .int .i64 x.v] 35)) := (Below.refl _ _).alloc (Nat.le_refl _) _
  have hK0 := At.new w 35 #[.int .u8 k, .string x.id, .int .i64 x.p, .int .i64 x.s, .int .i64 x.v]
  have HB := Lib.hid hB0
  have hr1 := Lib.hid (rremv_any v l x.id _ (h.rl.below hB0) hl)
  clear h hB0
  go_enter Try.func27, Try.ntmps27
  go_wp2_with fail
  refine hr1.out.mono ?_
  rintro e w1 ⟨v', rfl, hrl, hv, hb⟩
  have hK1 := hK0.below hb hK0.lt
  have hbb := bstep HB.out hb
  have k1 : w1.cell? ⟨w.heap.size, 1, none⟩ = some (.string x.id) := hK1.cell 1
  have k2 : w1.cell? ⟨w.heap.size, 2, none⟩ = some (.int .i64 x.p) := hK1.cell 2
  have k3 : w1.cell? ⟨w.heap.size, 3, none⟩ = some (.int .i64 x.s) := hK1.cell 3
  have k4 : w1.cell? ⟨w.heap.size, 4, none⟩ = some (.int .i64 x.v) := hK1.cell 4
  have HRL := Lib.hid hrl
  have HV := Lib.hid hv
  have HBB := Lib.hid hbb
  have hsz := HB.out.size
  clear hrl hv hb hbb hK0 hK1
  go_wp2_with fail
  refine (remv_any q g m1 m2 l x.id w1 (H.out.qu.below HBB.out) hl).mono ?_
  rintro e w2 ⟨rfl, hq⟩
  have HQ := Lib.hid hq
  clear hq
  go_wp2_with fail
  go_ret2
  refine did_of H.out HRL.out (fun b hb => ?_) HBB.out HQ.out
  rcases HV.out b hb with h | h
  · exact .inl h
  · exact .inr (Nat.le_trans hsz h)
set_option maxRecDepth 100000 in
set_option maxHeartbeats 8000000 in
theorem do_repl (q g m1 m2 : Nat) (v : Value) (l : List E) (k : Int) (x : E) (w : World) (h : Both w q g m1 m2 v l) (hl : l.length ≤ 60000) (hk0 : 0 ≤ k) (hk1 : k ≤ 255) (hk : k % 4 = 2) :
    Calls Try.prog 27 #[.pointer (some ⟨q, 0, none⟩), v, .agg #[.int .u8 k, .string x.id, .int .i64 x.p, .int .i64 x.s, .int .i64 x.v]] w (Did q g m1 m2 v (replP x.id x.v l).1 w) := by
  have H := Lib.hid h
  have hB0 : Below w.heap.size w (w.alloc (.cells #[.int .u8 k, .string x.id, .int .i64 x.p, .int .i64 x.s, .int .i64 x.v] 35)) := (Below.refl _ _).alloc (Nat.le_refl _) _
  have hK0 := At.new w 35 #[.int .u8 k, .string x.id, .int .i64 x.p, .int .i64 x.s, .int .i64 x.v]
  have HB := Lib.hid hB0
  have hr1 := Lib.hid (rrepl_any v l x.id x.v _ (h.rl.below hB0) h.qu.good hl)
  clear h hB0
  go_enter Try.func27, Try.ntmps27
  go_wp2_with fail
  refine hr1.out.mono ?_
  rintro e w1 ⟨v', rfl, hrl, hv, hb⟩
  have hK1 := hK0.below hb hK0.lt
  have hbb := bstep HB.out hb
  have k1 : w1.cell? ⟨w.heap.size, 1, none⟩ = some (.string x.id) := hK1.cell 1
  have k2 : w1.cell? ⟨w.heap.size, 2, none⟩ = some (.int .i64 x.p) := hK1.cell 2
  have k3 : w1.cell? ⟨w.heap.size, 3, none⟩ = some (.int .i64 x.s) := hK1.cell 3
  have k4 : w1.cell? ⟨w.heap.size, 4, none⟩ = some (.int .i64 x.v) := hK1.cell 4
  have HRL := Lib.hid hrl
  have HV := Lib.hid hv
  have HBB := Lib.hid hbb
  have hsz := HB.out.size
  clear hrl hv hb hbb hK0 hK1
  go_wp2_with fail
  refine (repl_any q g m1 m2 l x.id x.v w1 (H.out.qu.below HBB.out) hl).mono ?_
  rintro e w2 ⟨rfl, hq⟩
  have HQ := Lib.hid hq
  clear hq
  go_wp2_with fail
  go_ret2
  refine did_of H.out HRL.out (fun b hb => ?_) HBB.out HQ.out
  rcases HV.out b hb with h | h
  · exact .inl h
  · exact .inr (Nat.le_trans hsz h)
set_option maxRecDepth 100000 in
set_option maxHeartbeats 8000000 in
theorem do_prom (q g m1 m2 : Nat) (v : Value) (l : List E) (k : Int) (x : E) (w : World) (h : Both w q g m1 m2 v l) (hl : l.length ≤ 60000) (hk0 : 0 ≤ k) (hk1 : k ≤ 255) (hk : k % 4 = 3) :
    Calls Try.prog 27 #[.pointer (some ⟨q, 0, none⟩), v, .agg #[.int .u8 k, .string x.id, .int .i64 x.p, .int .i64 x.s, .int .i64 x.v]] w (Did q g m1 m2 v (promP x.id x.p l).1 w) := by
  have H := Lib.hid h
  have hB0 : Below w.heap.size w (w.alloc (.cells #[.int .u8 k, .string x.id, .int .i64 x.p, .int .i64 x.s, .int .i64 x.v] 35)) := (Below.refl _ _).alloc (Nat.le_refl _) _
  have hK0 := At.new w 35 #[.int .u8 k, .string x.id, .int .i64 x.p, .int .i64 x.s, .int .i64 x.v]
  have HB := Lib.hid hB0
  have hr1 := Lib.hid (rprom_any v l x.id x.p _ (h.rl.below hB0) h.qu.good hl)
  clear h hB0
  go_enter Try.func27, Try.ntmps27
  go_wp2_with fail
  refine hr1.out.mono ?_
  rintro e w1 ⟨v', rfl, hrl, hv, hb⟩
  have hK1 := hK0.below hb hK0.lt
  have hbb := bstep HB.out hb
  have k1 : w1.cell? ⟨w.heap.size, 1, none⟩ = some (.string x.id) := hK1.cell 1
  have k2 : w1.cell? ⟨w.heap.size, 2, none⟩ = some (.int .i64 x.p) := hK1.cell 2
  have k3 : w1.cell? ⟨w.heap.size, 3, none⟩ = some (.int .i64 x.s) := hK1.cell 3
  have k4 : w1.cell? ⟨w.heap.size, 4, none⟩ = some (.int .i64 x.v) := hK1.cell 4
  have HRL := Lib.hid hrl
  have HV := Lib.hid hv
  have HBB := Lib.hid hbb
  have hsz := HB.out.size
  clear hrl hv hb hbb hK0 hK1
  go_wp2_with fail
  refine (prom_any q g m1 m2 l x.id x.p w1 (H.out.qu.below HBB.out) hl).mono ?_
  rintro e w2 ⟨rfl, hq⟩
  have HQ := Lib.hid hq
  clear hq
  go_wp2_with fail
  go_ret2
  refine did_of H.out HRL.out (fun b hb => ?_) HBB.out HQ.out
  rcases HV.out b hb with h | h
  · exact .inl h
  · exact .inr (Nat.le_trans hsz h)

/-- do, on any operation -/
theorem do_any (q g m1 m2 : Nat) (v : Value) (l : List E) (k : Int) (x : E) (w : World) (h : Both w q g m1 m2 v l) (hl : l.length ≤ 60000) (hk0 : 0 ≤ k) (hk1 : k ≤ 255) :
    Calls Try.prog 27 #[.pointer (some ⟨q, 0, none⟩), v, .agg #[.int .u8 k, .string x.id, .int .i64 x.p, .int .i64 x.s, .int .i64 x.v]] w (Did q g m1 m2 v (stepP k x l) w) := by
  have h4 : k % 4 = 0 ∨ k % 4 = 1 ∨ k % 4 = 2 ∨ k % 4 = 3 := by omega
  unfold stepP
  rcases h4 with h4 | h4 | h4 | h4
  · rw [if_pos h4]; exact do_add q g m1 m2 v l k x w h hl hk0 hk1 h4
  · rw [if_neg (by omega), if_pos h4]; exact do_remv q g m1 m2 v l k x w h hl hk0 hk1 h4
  · rw [if_neg (by omega), if_neg (by omega), if_pos h4]; exact do_repl q g m1 m2 v l k x w h hl hk0 hk1 h4
  · rw [if_neg (by omega), if_neg (by omega), if_neg (by omega)]; exact do_prom q g m1 m2 v l k x w h hl hk0 hk1 h4
theorem length_addP (x : E) (l : List E) : (addP x l).1.length ≤ l.length + 1 := by
  unfold addP
  split; exact Nat.le_succ _
  split; exact Nat.le_succ _
  split; exact Nat.le_succ _
  split; exact Nat.le_succ _
  exact Nat.le_of_eq (length_insP x l)
theorem length_remvP (i : ByteArray) (l : List E) : (remvP i l).1.length ≤ l.length + 1 := by
  unfold remvP
  split
  · rename_i h
    show (remP _ l).length ≤ _
    rw [length_remP h]; omega
  · exact Nat.le_succ _
theorem length_replP (i : ByteArray) (v : Int) (l : List E) : (replP i v l).1.length ≤ l.length + 1 := by
  unfold replP
  split
  · show (l.set _ _).length ≤ _
    rw [List.length_set]; exact Nat.le_succ _
  · exact Nat.le_succ _
theorem length_promP (i : ByteArray) (p : Int) (l : List E) : (promP i p l).1.length ≤ l.length + 1 := by
  unfold promP
  split
  · rename_i h
    split
    · exact Nat.le_succ _
    · show (insP _ (remP _ l)).length ≤ _
      rw [length_insP, length_remP h]; omega
  · exact Nat.le_succ _
theorem length_stepP (k : Int) (x : E) (l : List E) : (stepP k x l).length ≤ l.length + 1 := by
  unfold stepP
  split; exact length_addP x l
  split; exact length_remvP _ l
  split; exact length_replP _ _ l
  exact length_promP _ _ l
end Go.Proofs.Ytmimfhjmhlmibaa
