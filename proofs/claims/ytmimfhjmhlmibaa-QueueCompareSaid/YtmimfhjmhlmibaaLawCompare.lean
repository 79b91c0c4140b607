/- The walk of the law QueueCompare. -/
import Derived.Test.YtmimfhjmhlmibaaKnown
import Derived.BigRegion
namespace Go.Proofs.Ytmimfhjmhlmibaa
open Go.RowKit Go.MapKept Go.ChangeMaps
set_option linter.unusedVariables false
attribute [local go_sem ↓] Go.wp_at_zero Go.wp_at_succ

theorem below_drew1 {B : Nat} {a w : World} (h : Below B a w) : Below B a w.drew := h.drew
/-- three keys in blocks of their own -/
def Keys3 (w : World) (x y z : Nat) (p s p' s' p'' s'' : Int) : Prop :=
  At w x 25 #[.int .i64 p, .int .i64 s] ∧ At w y 25 #[.int .i64 p', .int .i64 s'] ∧ At w z 25 #[.int .i64 p'', .int .i64 s'']

theorem kcmp_trans (p s p' s' p'' s'' : Int) (h1 : kcmp p s p' s' ≤ 0) (h2 : kcmp p' s' p'' s'' ≤ 0) : kcmp p s p'' s'' ≤ 0 := by
  rcases kcmp_tri p s p' s' with a | a | a <;> rcases kcmp_tri p' s' p'' s'' with b | b | b <;> rcases kcmp_tri p s p'' s'' with c | c | c <;> omega
theorem at1 (w : World) (t : TypeId) (A : Array Value) (o2 o3 : Obj) : At (((w.alloc (.cells A t)).alloc o2).alloc o3).drew w.heap.size t A := (((At.new w t A).alloc _).alloc _).drew
theorem at2 (w : World) (t : TypeId) (A : Array Value) (o1 o3 : Obj) : At (((w.alloc o1).alloc (.cells A t)).alloc o3).drew (w.heap.size + 1) t A := by
  have := ((At.new (w.alloc o1) t A).alloc o3).drew
  rwa [World.size_alloc] at this
theorem at3 (w : World) (t : TypeId) (A : Array Value) (o1 o2 : Obj) : At (((w.alloc o1).alloc o2).alloc (.cells A t)).drew (w.heap.size + 1 + 1) t A := by
  have := (At.new ((w.alloc o1).alloc o2) t A).drew
  rwa [World.size_alloc, World.size_alloc] at this

set_option maxRecDepth 100000 in
set_option maxHeartbeats 4000000 in
theorem compare_walk (i : ByteArray) (p s v : Int) (i' : ByteArray) (p' s' v' : Int) (i'' : ByteArray) (p'' s'' v'' : Int) (w : World) :
    Calls Try.prog 3 #[.agg #[.string i, .int .i64 p, .int .i64 s, .int .i64 v], .agg #[.string i', .int .i64 p', .int .i64 s', .int .i64 v'], .agg #[.string i'', .int .i64 p'', .int .i64 s'', .int .i64 v'']] w fun e w' => e = .returned (.bool true) ∧ Below w.heap.size w w' := by
  have hB : Below w.heap.size w (((w.alloc (.cells #[.string i, .int .i64 p, .int .i64 s, .int .i64 v] 23)).alloc (.cells #[.string i', .int .i64 p', .int .i64 s', .int .i64 v'] 23)).alloc (.cells #[.string i'', .int .i64 p'', .int .i64 s'', .int .i64 v''] 23)) := (((Below.refl _ _).alloc (Nat.le_refl _) _).alloc (by simp) _).alloc (by simp; omega) _
  have hX := ((At.new w 23 #[.string i, .int .i64 p, .int .i64 s, .int .i64 v]).alloc (.cells #[.string i', .int .i64 p', .int .i64 s', .int .i64 v'] 23)).alloc (.cells #[.string i'', .int .i64 p'', .int .i64 s'', .int .i64 v''] 23)
  have hY := (At.new (w.alloc (.cells #[.string i, .int .i64 p, .int .i64 s, .int .i64 v] 23)) 23 #[.string i', .int .i64 p', .int .i64 s', .int .i64 v']).alloc (.cells #[.string i'', .int .i64 p'', .int .i64 s'', .int .i64 v''] 23)
  have hZ := At.new ((w.alloc (.cells #[.string i, .int .i64 p, .int .i64 s, .int .i64 v] 23)).alloc (.cells #[.string i', .int .i64 p', .int .i64 s', .int .i64 v'] 23)) 23 #[.string i'', .int .i64 p'', .int .i64 s'', .int .i64 v'']
  have s1 : (w.alloc (.cells #[.string i, .int .i64 p, .int .i64 s, .int .i64 v] 23)).heap.size = w.heap.size + 1 := by simp
  have s2 : ((w.alloc (.cells #[.string i, .int .i64 p, .int .i64 s, .int .i64 v] 23)).alloc (.cells #[.string i', .int .i64 p', .int .i64 s', .int .i64 v'] 23)).heap.size = w.heap.size + 1 + 1 := by simp
  rw [s1] at hY
  rw [s2] at hZ
  have HS1 := Lib.hid s1
  have HS2 := Lib.hid s2
  clear s1 s2
  go_enter Try.func3, Try.ntmps3
  go_wp2_with fail
  generalize ((w.alloc (.cells #[.string i, .int .i64 p, .int .i64 s, .int .i64 v] 23)).alloc (.cells #[.string i', .int .i64 p', .int .i64 s', .int .i64 v'] 23)).alloc (.cells #[.string i'', .int .i64 p'', .int .i64 s'', .int .i64 v''] 23) = wr at *
  have a1 : wr.cell? ⟨w.heap.size, 1, none⟩ = some (.int .i64 p) := hX.cell 1
  have a2 : wr.cell? ⟨w.heap.size, 2, none⟩ = some (.int .i64 s) := hX.cell 2
  have b1 : wr.cell? ⟨w.heap.size + 1, 1, none⟩ = some (.int .i64 p') := hY.cell 1
  have b2 : wr.cell? ⟨w.heap.size + 1, 2, none⟩ = some (.int .i64 s') := hY.cell 2
  have c1 : wr.cell? ⟨w.heap.size + 1 + 1, 1, none⟩ = some (.int .i64 p'') := hZ.cell 1
  have c2 : wr.cell? ⟨w.heap.size + 1 + 1, 2, none⟩ = some (.int .i64 s'') := hZ.cell 2
  have n1 := World.new_ne wr _ a1
  have n2 := World.new_ne wr _ b1
  have n3 := World.new_ne wr _ c1
  have hS : ∀ W, Below wr.heap.size wr W → (W.cell? ⟨w.heap.size, 1, none⟩ = some (.int .i64 p) ∧ W.cell? ⟨w.heap.size, 2, none⟩ = some (.int .i64 s) ∧ W.cell? ⟨w.heap.size + 1, 1, none⟩ = some (.int .i64 p') ∧ W.cell? ⟨w.heap.size + 1, 2, none⟩ = some (.int .i64 s') ∧ W.cell? ⟨w.heap.size + 1 + 1, 1, none⟩ = some (.int .i64 p'') ∧ W.cell? ⟨w.heap.size + 1 + 1, 2, none⟩ = some (.int .i64 s'')) := fun W hb =>
    ⟨(hb.cell (p := ⟨w.heap.size, 1, none⟩) hX.lt).trans a1, (hb.cell (p := ⟨w.heap.size, 2, none⟩) hX.lt).trans a2, (hb.cell (p := ⟨w.heap.size + 1, 1, none⟩) hY.lt).trans b1, (hb.cell (p := ⟨w.heap.size + 1, 2, none⟩) hY.lt).trans b2, (hb.cell (p := ⟨w.heap.size + 1 + 1, 1, none⟩) hZ.lt).trans c1, (hb.cell (p := ⟨w.heap.size + 1 + 1, 2, none⟩) hZ.lt).trans c2⟩
  have HS := Lib.hid hS
  clear hS
  go_upto_region 1 with fail
  go_cut [7, 8, 9] (fun t7 t8 t9 wx => ∃ x y z : Nat, t7 = .pointer (some ⟨x, 0, none⟩) ∧ t8 = .pointer (some ⟨y, 0, none⟩) ∧ t9 = .pointer (some ⟨z, 0, none⟩) ∧ Keys3 wx x y z p s p' s' p'' s'' ∧ Below wr.heap.size wr wx)
  case first =>
    go_region_held3 (fun w' => w'.cell? ⟨w.heap.size, 1, none⟩ = some (.int .i64 p) ∧ w'.cell? ⟨w.heap.size, 2, none⟩ = some (.int .i64 s) ∧ w'.cell? ⟨w.heap.size + 1, 1, none⟩ = some (.int .i64 p') ∧ w'.cell? ⟨w.heap.size + 1, 2, none⟩ = some (.int .i64 s') ∧ w'.cell? ⟨w.heap.size + 1 + 1, 1, none⟩ = some (.int .i64 p'') ∧ w'.cell? ⟨w.heap.size + 1 + 1, 2, none⟩ = some (.int .i64 s'')) ((refine HS.out _ ?_; repeat (first | exact Below.refl _ _ | refine below_drew1 ?_ | refine Below.alloc ?_ (by simp <;> omega) _ | refine Below.setCell ?_ (by simp <;> omega) _))) (fail)
    all_goals (go_wp2_with fail; go_meet; exact ⟨_, _, _, rfl, rfl, rfl, ⟨(by first | exact at1 _ _ _ _ _ | exact at2 _ _ _ _ _ | exact at3 _ _ _ _ _), (by first | exact at1 _ _ _ _ _ | exact at2 _ _ _ _ _ | exact at3 _ _ _ _ _), (by first | exact at1 _ _ _ _ _ | exact at2 _ _ _ _ _ | exact at3 _ _ _ _ _)⟩, (((Below.refl _ _).alloc (Nat.le_refl _) _).alloc (by simp) _).alloc (by simp; omega) _ |>.drew⟩)
  case rest =>
    obtain ⟨x, y, z, rfl, rfl, rfl, ⟨hx, hy, hz⟩, hbc⟩ := hcut
    obtain ⟨wd, rfl⟩ : ∃ wd : World, wd = wc := ⟨_, rfl⟩
    have hX2 := hX.below hbc hX.lt
    have hY2 := hY.below hbc hY.lt
    have hZ2 := hZ.below hbc hZ.lt
    have hBc := bstep hB hbc
    have HB := Lib.hid hBc
    clear hX hY hZ hB hbc a1 a2 b1 b2 c1 c2 n1 n2 n3 hBc HS HS1 HS2
    have x0 : wd.cell? ⟨x, 0, none⟩ = some (.int .i64 p) := hx.cell 0
    have x1 : wd.cell? ⟨x, 1, none⟩ = some (.int .i64 s) := hx.cell 1
    have y0 : wd.cell? ⟨y, 0, none⟩ = some (.int .i64 p') := hy.cell 0
    have y1 : wd.cell? ⟨y, 1, none⟩ = some (.int .i64 s') := hy.cell 1
    have z0 : wd.cell? ⟨z, 0, none⟩ = some (.int .i64 p'') := hz.cell 0
    have z1 : wd.cell? ⟨z, 1, none⟩ = some (.int .i64 s'') := hz.cell 1
    have a0 : wd.cell? ⟨w.heap.size, 0, none⟩ = some (.string i) := hX2.cell 0
    have a1 : wd.cell? ⟨w.heap.size, 1, none⟩ = some (.int .i64 p) := hX2.cell 1
    have a2 : wd.cell? ⟨w.heap.size, 2, none⟩ = some (.int .i64 s) := hX2.cell 2
    have a3 : wd.cell? ⟨w.heap.size, 3, none⟩ = some (.int .i64 v) := hX2.cell 3
    have b0 : wd.cell? ⟨w.heap.size + 1, 0, none⟩ = some (.string i') := hY2.cell 0
    have b1 : wd.cell? ⟨w.heap.size + 1, 1, none⟩ = some (.int .i64 p') := hY2.cell 1
    have b2 : wd.cell? ⟨w.heap.size + 1, 2, none⟩ = some (.int .i64 s') := hY2.cell 2
    have b3 : wd.cell? ⟨w.heap.size + 1, 3, none⟩ = some (.int .i64 v') := hY2.cell 3
    have hS : ∀ W, Below wd.heap.size wd W → (W.cell? ⟨x, 0, none⟩ = some (.int .i64 p) ∧ W.cell? ⟨x, 1, none⟩ = some (.int .i64 s) ∧ W.cell? ⟨y, 0, none⟩ = some (.int .i64 p') ∧ W.cell? ⟨y, 1, none⟩ = some (.int .i64 s') ∧
        W.cell? ⟨w.heap.size, 0, none⟩ = some (.string i) ∧ W.cell? ⟨w.heap.size, 1, none⟩ = some (.int .i64 p) ∧ W.cell? ⟨w.heap.size, 2, none⟩ = some (.int .i64 s) ∧ W.cell? ⟨w.heap.size, 3, none⟩ = some (.int .i64 v) ∧
        W.cell? ⟨w.heap.size + 1, 0, none⟩ = some (.string i') ∧ W.cell? ⟨w.heap.size + 1, 1, none⟩ = some (.int .i64 p') ∧ W.cell? ⟨w.heap.size + 1, 2, none⟩ = some (.int .i64 s') ∧ W.cell? ⟨w.heap.size + 1, 3, none⟩ = some (.int .i64 v') ∧ Below wd.heap.size wd W) := fun W hb =>
      ⟨(hb.cell (p := ⟨x, 0, none⟩) hx.lt).trans x0, (hb.cell (p := ⟨x, 1, none⟩) hx.lt).trans x1, (hb.cell (p := ⟨y, 0, none⟩) hy.lt).trans y0, (hb.cell (p := ⟨y, 1, none⟩) hy.lt).trans y1,
        (hb.cell (p := ⟨w.heap.size, 0, none⟩) hX2.lt).trans a0, (hb.cell (p := ⟨w.heap.size, 1, none⟩) hX2.lt).trans a1, (hb.cell (p := ⟨w.heap.size, 2, none⟩) hX2.lt).trans a2, (hb.cell (p := ⟨w.heap.size, 3, none⟩) hX2.lt).trans a3,
        (hb.cell (p := ⟨w.heap.size + 1, 0, none⟩) hY2.lt).trans b0, (hb.cell (p := ⟨w.heap.size + 1, 1, none⟩) hY2.lt).trans b1, (hb.cell (p := ⟨w.heap.size + 1, 2, none⟩) hY2.lt).trans b2, (hb.cell (p := ⟨w.heap.size + 1, 3, none⟩) hY2.lt).trans b3, hb⟩
    have HS := Lib.hid hS
    have hx' := Lib.hid hx
    have hy' := Lib.hid hy
    have hz' := Lib.hid hz
    clear hS hx hy hz hX2 hY2 hZ2 x0 x1 y0 y1 z0 z1 a0 a1 a2 a3 b0 b1 b2 b3
    go_upto_region 2 with fail
    go_cut [52] (fun t wx => t = .bool false ∧ Below wd.heap.size wd wx)
    case first =>
      have h5 : (p' < p) ∨ (p = p' ∧ s < s') ∨ (p = p' ∧ s = s') ∨ (p < p') ∨ (p = p' ∧ s' < s) := by omega
      have q12 := fun W => compare_any p s p' s' W
      have q21 := fun W => compare_any p' s' p s W
      have qb := fun W => before_any i i' p s v p' s' v' W
      have w1 : IntKind.i64.wrap (-1) = -1 := by decide
      have w2 : IntKind.i64.wrap 1 = 1 := by decide
      have w3 : IntKind.i64.wrap 0 = 0 := by decide
      rcases h5 with h | ⟨rfl, h⟩ | ⟨rfl, rfl⟩ | h | ⟨rfl, h⟩
      case inl =>
        rw [kcmp_lt (.inl h)] at q12; rw [kcmp_gt (.inl h)] at q21; rw [show kbef p s p' s' = true from kbef_iff.2 (.inl h)] at qb
        have e1 : (p == p') = false := by rw [beq_eq_false_iff_ne]; omega
        have e2 : ¬ p = p' := by omega
        have Q12 := Lib.hid q12
        have Q21 := Lib.hid q21
        have QB := Lib.hid qb
        clear q12 q21 qb h
        go_region_held3 (fun W => W.cell? ⟨x, 0, none⟩ = some (.int .i64 p) ∧ W.cell? ⟨x, 1, none⟩ = some (.int .i64 s) ∧ W.cell? ⟨y, 0, none⟩ = some (.int .i64 p') ∧ W.cell? ⟨y, 1, none⟩ = some (.int .i64 s') ∧
          W.cell? ⟨w.heap.size, 0, none⟩ = some (.string i) ∧ W.cell? ⟨w.heap.size, 1, none⟩ = some (.int .i64 p) ∧ W.cell? ⟨w.heap.size, 2, none⟩ = some (.int .i64 s) ∧ W.cell? ⟨w.heap.size, 3, none⟩ = some (.int .i64 v) ∧
          W.cell? ⟨w.heap.size + 1, 0, none⟩ = some (.string i') ∧ W.cell? ⟨w.heap.size + 1, 1, none⟩ = some (.int .i64 p') ∧ W.cell? ⟨w.heap.size + 1, 2, none⟩ = some (.int .i64 s') ∧ W.cell? ⟨w.heap.size + 1, 3, none⟩ = some (.int .i64 v') ∧ Below wd.heap.size wd W)
          (first | exact HS.out _ (Below.refl _ _).drew | exact HS.out _ nB)
          (first
            | (go_at_call 12; ((with_reducible refine (Q12.out _).mono ?_); rintro e w2 ⟨rfl, hb2⟩; obtain ⟨-, -, -, -, -, -, -, -, -, -, -, -, sB⟩ := ‹_ ∧ _ ∧ _ ∧ _ ∧ _ ∧ _ ∧ _ ∧ _ ∧ _ ∧ _ ∧ _ ∧ _ ∧ Below wd.heap.size wd _›; have nB' := bstep sB hb2; clear sB hb2; (try clear nB); have nB := nB'; clear nB'))
            | (go_at_call 12; ((with_reducible refine (Q21.out _).mono ?_); rintro e w2 ⟨rfl, hb2⟩; obtain ⟨-, -, -, -, -, -, -, -, -, -, -, -, sB⟩ := ‹_ ∧ _ ∧ _ ∧ _ ∧ _ ∧ _ ∧ _ ∧ _ ∧ _ ∧ _ ∧ _ ∧ _ ∧ Below wd.heap.size wd _›; have nB' := bstep sB hb2; clear sB hb2; (try clear nB); have nB := nB'; clear nB'))
            | (go_at_call 13; ((with_reducible refine (QB.out _).mono ?_); rintro e w2 ⟨rfl, hb2⟩; obtain ⟨-, -, -, -, -, -, -, -, -, -, -, -, sB⟩ := ‹_ ∧ _ ∧ _ ∧ _ ∧ _ ∧ _ ∧ _ ∧ _ ∧ _ ∧ _ ∧ _ ∧ _ ∧ Below wd.heap.size wd _›; have nB' := bstep sB hb2; clear sB hb2; (try clear nB); have nB := nB'; clear nB')))
        all_goals (go_wp2_with fail; go_meet; exact ⟨rfl, nB⟩)
      case inr.inl =>
        rw [kcmp_lt (.inr ⟨rfl, h⟩)] at q12; rw [kcmp_gt (.inr ⟨rfl, h⟩)] at q21; rw [show kbef p s p s' = true from kbef_iff.2 (.inr ⟨rfl, h⟩)] at qb
        have e1 : (s == s') = false := by rw [beq_eq_false_iff_ne]; omega
        have e2 : ¬ s = s' := by omega
        have Q12 := Lib.hid q12
        have Q21 := Lib.hid q21
        have QB := Lib.hid qb
        clear q12 q21 qb h
        go_region_held3 (fun W => W.cell? ⟨x, 0, none⟩ = some (.int .i64 p) ∧ W.cell? ⟨x, 1, none⟩ = some (.int .i64 s) ∧ W.cell? ⟨y, 0, none⟩ = some (.int .i64 p) ∧ W.cell? ⟨y, 1, none⟩ = some (.int .i64 s') ∧
          W.cell? ⟨w.heap.size, 0, none⟩ = some (.string i) ∧ W.cell? ⟨w.heap.size, 1, none⟩ = some (.int .i64 p) ∧ W.cell? ⟨w.heap.size, 2, none⟩ = some (.int .i64 s) ∧ W.cell? ⟨w.heap.size, 3, none⟩ = some (.int .i64 v) ∧
          W.cell? ⟨w.heap.size + 1, 0, none⟩ = some (.string i') ∧ W.cell? ⟨w.heap.size + 1, 1, none⟩ = some (.int .i64 p) ∧ W.cell? ⟨w.heap.size + 1, 2, none⟩ = some (.int .i64 s') ∧ W.cell? ⟨w.heap.size + 1, 3, none⟩ = some (.int .i64 v') ∧ Below wd.heap.size wd W)
          (first | exact HS.out _ (Below.refl _ _).drew | exact HS.out _ nB)
          (first
            | (go_at_call 12; ((with_reducible refine (Q12.out _).mono ?_); rintro e w2 ⟨rfl, hb2⟩; obtain ⟨-, -, -, -, -, -, -, -, -, -, -, -, sB⟩ := ‹_ ∧ _ ∧ _ ∧ _ ∧ _ ∧ _ ∧ _ ∧ _ ∧ _ ∧ _ ∧ _ ∧ _ ∧ Below wd.heap.size wd _›; have nB' := bstep sB hb2; clear sB hb2; (try clear nB); have nB := nB'; clear nB'))
            | (go_at_call 12; ((with_reducible refine (Q21.out _).mono ?_); rintro e w2 ⟨rfl, hb2⟩; obtain ⟨-, -, -, -, -, -, -, -, -, -, -, -, sB⟩ := ‹_ ∧ _ ∧ _ ∧ _ ∧ _ ∧ _ ∧ _ ∧ _ ∧ _ ∧ _ ∧ _ ∧ _ ∧ Below wd.heap.size wd _›; have nB' := bstep sB hb2; clear sB hb2; (try clear nB); have nB := nB'; clear nB'))
            | (go_at_call 13; ((with_reducible refine (QB.out _).mono ?_); rintro e w2 ⟨rfl, hb2⟩; obtain ⟨-, -, -, -, -, -, -, -, -, -, -, -, sB⟩ := ‹_ ∧ _ ∧ _ ∧ _ ∧ _ ∧ _ ∧ _ ∧ _ ∧ _ ∧ _ ∧ _ ∧ _ ∧ Below wd.heap.size wd _›; have nB' := bstep sB hb2; clear sB hb2; (try clear nB); have nB := nB'; clear nB')))
        all_goals (go_wp2_with fail; go_meet; exact ⟨rfl, nB⟩)
      case inr.inr.inl =>
        rw [kcmp_eq] at q12 q21; rw [show kbef p s p s = false from kbef_false.2 (by omega)] at qb
        have Q12 := Lib.hid q12
        have Q21 := Lib.hid q21
        have QB := Lib.hid qb
        clear q12 q21 qb
        go_region_held3 (fun W => W.cell? ⟨x, 0, none⟩ = some (.int .i64 p) ∧ W.cell? ⟨x, 1, none⟩ = some (.int .i64 s) ∧ W.cell? ⟨y, 0, none⟩ = some (.int .i64 p) ∧ W.cell? ⟨y, 1, none⟩ = some (.int .i64 s) ∧
          W.cell? ⟨w.heap.size, 0, none⟩ = some (.string i) ∧ W.cell? ⟨w.heap.size, 1, none⟩ = some (.int .i64 p) ∧ W.cell? ⟨w.heap.size, 2, none⟩ = some (.int .i64 s) ∧ W.cell? ⟨w.heap.size, 3, none⟩ = some (.int .i64 v) ∧
          W.cell? ⟨w.heap.size + 1, 0, none⟩ = some (.string i') ∧ W.cell? ⟨w.heap.size + 1, 1, none⟩ = some (.int .i64 p) ∧ W.cell? ⟨w.heap.size + 1, 2, none⟩ = some (.int .i64 s) ∧ W.cell? ⟨w.heap.size + 1, 3, none⟩ = some (.int .i64 v') ∧ Below wd.heap.size wd W)
          (first | exact HS.out _ (Below.refl _ _).drew | exact HS.out _ nB)
          (first
            | (go_at_call 12; ((with_reducible refine (Q12.out _).mono ?_); rintro e w2 ⟨rfl, hb2⟩; obtain ⟨-, -, -, -, -, -, -, -, -, -, -, -, sB⟩ := ‹_ ∧ _ ∧ _ ∧ _ ∧ _ ∧ _ ∧ _ ∧ _ ∧ _ ∧ _ ∧ _ ∧ _ ∧ Below wd.heap.size wd _›; have nB' := bstep sB hb2; clear sB hb2; (try clear nB); have nB := nB'; clear nB'))
            | (go_at_call 12; ((with_reducible refine (Q21.out _).mono ?_); rintro e w2 ⟨rfl, hb2⟩; obtain ⟨-, -, -, -, -, -, -, -, -, -, -, -, sB⟩ := ‹_ ∧ _ ∧ _ ∧ _ ∧ _ ∧ _ ∧ _ ∧ _ ∧ _ ∧ _ ∧ _ ∧ _ ∧ Below wd.heap.size wd _›; have nB' := bstep sB hb2; clear sB hb2; (try clear nB); have nB := nB'; clear nB'))
            | (go_at_call 13; ((with_reducible refine (QB.out _).mono ?_); rintro e w2 ⟨rfl, hb2⟩; obtain ⟨-, -, -, -, -, -, -, -, -, -, -, -, sB⟩ := ‹_ ∧ _ ∧ _ ∧ _ ∧ _ ∧ _ ∧ _ ∧ _ ∧ _ ∧ _ ∧ _ ∧ _ ∧ Below wd.heap.size wd _›; have nB' := bstep sB hb2; clear sB hb2; (try clear nB); have nB := nB'; clear nB')))
        all_goals (go_wp2_with fail; go_meet; exact ⟨rfl, nB⟩)
      case inr.inr.inr.inl =>
        rw [kcmp_gt (.inl h)] at q12; rw [kcmp_lt (.inl h)] at q21; rw [show kbef p s p' s' = false from kbef_false.2 (by omega)] at qb
        have e1 : (p == p') = false := by rw [beq_eq_false_iff_ne]; omega
        have e2 : ¬ p = p' := by omega
        have Q12 := Lib.hid q12
        have Q21 := Lib.hid q21
        have QB := Lib.hid qb
        clear q12 q21 qb h
        go_region_held3 (fun W => W.cell? ⟨x, 0, none⟩ = some (.int .i64 p) ∧ W.cell? ⟨x, 1, none⟩ = some (.int .i64 s) ∧ W.cell? ⟨y, 0, none⟩ = some (.int .i64 p') ∧ W.cell? ⟨y, 1, none⟩ = some (.int .i64 s') ∧
          W.cell? ⟨w.heap.size, 0, none⟩ = some (.string i) ∧ W.cell? ⟨w.heap.size, 1, none⟩ = some (.int .i64 p) ∧ W.cell? ⟨w.heap.size, 2, none⟩ = some (.int .i64 s) ∧ W.cell? ⟨w.heap.size, 3, none⟩ = some (.int .i64 v) ∧
          W.cell? ⟨w.heap.size + 1, 0, none⟩ = some (.string i') ∧ W.cell? ⟨w.heap.size + 1, 1, none⟩ = some (.int .i64 p') ∧ W.cell? ⟨w.heap.size + 1, 2, none⟩ = some (.int .i64 s') ∧ W.cell? ⟨w.heap.size + 1, 3, none⟩ = some (.int .i64 v') ∧ Below wd.heap.size wd W)
          (first | exact HS.out _ (Below.refl _ _).drew | exact HS.out _ nB)
          (first
            | (go_at_call 12; ((with_reducible refine (Q12.out _).mono ?_); rintro e w2 ⟨rfl, hb2⟩; obtain ⟨-, -, -, -, -, -, -, -, -, -, -, -, sB⟩ := ‹_ ∧ _ ∧ _ ∧ _ ∧ _ ∧ _ ∧ _ ∧ _ ∧ _ ∧ _ ∧ _ ∧ _ ∧ Below wd.heap.size wd _›; have nB' := bstep sB hb2; clear sB hb2; (try clear nB); have nB := nB'; clear nB'))
            | (go_at_call 12; ((with_reducible refine (Q21.out _).mono ?_); rintro e w2 ⟨rfl, hb2⟩; obtain ⟨-, -, -, -, -, -, -, -, -, -, -, -, sB⟩ := ‹_ ∧ _ ∧ _ ∧ _ ∧ _ ∧ _ ∧ _ ∧ _ ∧ _ ∧ _ ∧ _ ∧ _ ∧ Below wd.heap.size wd _›; have nB' := bstep sB hb2; clear sB hb2; (try clear nB); have nB := nB'; clear nB'))
            | (go_at_call 13; ((with_reducible refine (QB.out _).mono ?_); rintro e w2 ⟨rfl, hb2⟩; obtain ⟨-, -, -, -, -, -, -, -, -, -, -, -, sB⟩ := ‹_ ∧ _ ∧ _ ∧ _ ∧ _ ∧ _ ∧ _ ∧ _ ∧ _ ∧ _ ∧ _ ∧ _ ∧ Below wd.heap.size wd _›; have nB' := bstep sB hb2; clear sB hb2; (try clear nB); have nB := nB'; clear nB')))
        all_goals (go_wp2_with fail; go_meet; exact ⟨rfl, nB⟩)
      case inr.inr.inr.inr =>
        rw [kcmp_gt (.inr ⟨rfl, h⟩)] at q12; rw [kcmp_lt (.inr ⟨rfl, h⟩)] at q21; rw [show kbef p s p s' = false from kbef_false.2 (by omega)] at qb
        have e1 : (s == s') = false := by rw [beq_eq_false_iff_ne]; omega
        have e2 : ¬ s = s' := by omega
        have Q12 := Lib.hid q12
        have Q21 := Lib.hid q21
        have QB := Lib.hid qb
        clear q12 q21 qb h
        go_region_held3 (fun W => W.cell? ⟨x, 0, none⟩ = some (.int .i64 p) ∧ W.cell? ⟨x, 1, none⟩ = some (.int .i64 s) ∧ W.cell? ⟨y, 0, none⟩ = some (.int .i64 p) ∧ W.cell? ⟨y, 1, none⟩ = some (.int .i64 s') ∧
          W.cell? ⟨w.heap.size, 0, none⟩ = some (.string i) ∧ W.cell? ⟨w.heap.size, 1, none⟩ = some (.int .i64 p) ∧ W.cell? ⟨w.heap.size, 2, none⟩ = some (.int .i64 s) ∧ W.cell? ⟨w.heap.size, 3, none⟩ = some (.int .i64 v) ∧
          W.cell? ⟨w.heap.size + 1, 0, none⟩ = some (.string i') ∧ W.cell? ⟨w.heap.size + 1, 1, none⟩ = some (.int .i64 p) ∧ W.cell? ⟨w.heap.size + 1, 2, none⟩ = some (.int .i64 s') ∧ W.cell? ⟨w.heap.size + 1, 3, none⟩ = some (.int .i64 v') ∧ Below wd.heap.size wd W)
          (first | exact HS.out _ (Below.refl _ _).drew | exact HS.out _ nB)
          (first
            | (go_at_call 12; ((with_reducible refine (Q12.out _).mono ?_); rintro e w2 ⟨rfl, hb2⟩; obtain ⟨-, -, -, -, -, -, -, -, -, -, -, -, sB⟩ := ‹_ ∧ _ ∧ _ ∧ _ ∧ _ ∧ _ ∧ _ ∧ _ ∧ _ ∧ _ ∧ _ ∧ _ ∧ Below wd.heap.size wd _›; have nB' := bstep sB hb2; clear sB hb2; (try clear nB); have nB := nB'; clear nB'))
            | (go_at_call 12; ((with_reducible refine (Q21.out _).mono ?_); rintro e w2 ⟨rfl, hb2⟩; obtain ⟨-, -, -, -, -, -, -, -, -, -, -, -, sB⟩ := ‹_ ∧ _ ∧ _ ∧ _ ∧ _ ∧ _ ∧ _ ∧ _ ∧ _ ∧ _ ∧ _ ∧ _ ∧ Below wd.heap.size wd _›; have nB' := bstep sB hb2; clear sB hb2; (try clear nB); have nB := nB'; clear nB'))
            | (go_at_call 13; ((with_reducible refine (QB.out _).mono ?_); rintro e w2 ⟨rfl, hb2⟩; obtain ⟨-, -, -, -, -, -, -, -, -, -, -, -, sB⟩ := ‹_ ∧ _ ∧ _ ∧ _ ∧ _ ∧ _ ∧ _ ∧ _ ∧ _ ∧ _ ∧ _ ∧ _ ∧ Below wd.heap.size wd _›; have nB' := bstep sB hb2; clear sB hb2; (try clear nB); have nB := nB'; clear nB')))
        all_goals (go_wp2_with fail; go_meet; exact ⟨rfl, nB⟩)
    case rest =>
      obtain ⟨rfl, hbx⟩ := hcut
      obtain ⟨we, rfl⟩ : ∃ we : World, we = wc := ⟨_, rfl⟩
      have hx := hx'.out.below hbx hx'.out.lt
      have hy := hy'.out.below hbx hy'.out.lt
      have hz := hz'.out.below hbx hz'.out.lt
      have HB2 := Lib.hid (bstep HB.out hbx)
      have HX := Lib.hid hx
      have HY := Lib.hid hy
      have HZ := Lib.hid hz
      have x0 : we.cell? ⟨x, 0, none⟩ = some (.int .i64 p) := hx.cell 0
      have x1 : we.cell? ⟨x, 1, none⟩ = some (.int .i64 s) := hx.cell 1
      have y0 : we.cell? ⟨y, 0, none⟩ = some (.int .i64 p') := hy.cell 0
      have y1 : we.cell? ⟨y, 1, none⟩ = some (.int .i64 s') := hy.cell 1
      have q12 := Lib.hid (fun W => compare_any p s p' s' W)
      have q23 := Lib.hid (fun W => compare_any p' s' p'' s'' W)
      have q13 := Lib.hid (fun W => compare_any p s p'' s'' W)
      have ht := kcmp_trans p s p' s' p'' s''
      generalize kcmp p s p' s' = K1 at *
      generalize kcmp p' s' p'' s'' = K2 at *
      generalize kcmp p s p'' s'' = K3 at *
      clear hx hy hz hbx HS
      by_cases h1 : K1 ≤ 0
      · by_cases h2 : K2 ≤ 0
        · have h3 : ¬ 0 < K3 := by have := ht h1 h2; omega
          have h4 : decide (0 < K3) = false := by simp; omega
          clear ht
          go_wp2_with fail
          refine (q12.out _).mono ?_
          rintro e w2 ⟨rfl, hb2⟩
          have hy := HY.out.below hb2 HY.out.lt
          have hz := HZ.out.below hb2 HZ.out.lt
          have hx := HX.out.below hb2 HX.out.lt
          clear x0 x1 y0 y1
          have y0 : w2.cell? ⟨y, 0, none⟩ = some (.int .i64 p') := hy.cell 0
          have y1 : w2.cell? ⟨y, 1, none⟩ = some (.int .i64 s') := hy.cell 1
          have z0 : w2.cell? ⟨z, 0, none⟩ = some (.int .i64 p'') := hz.cell 0
          have z1 : w2.cell? ⟨z, 1, none⟩ = some (.int .i64 s'') := hz.cell 1
          have HX2 := Lib.hid hx
          have HZ2 := Lib.hid hz
          have HB3 := Lib.hid (bstep HB2.out hb2)
          clear hx hy hz hb2
          go_wp2_with fail
          refine (q23.out _).mono ?_
          rintro e w3 ⟨rfl, hb3⟩
          have hz := HZ2.out.below hb3 HZ2.out.lt
          have hx := HX2.out.below hb3 HX2.out.lt
          clear y0 y1 z0 z1
          have x0 : w3.cell? ⟨x, 0, none⟩ = some (.int .i64 p) := hx.cell 0
          have x1 : w3.cell? ⟨x, 1, none⟩ = some (.int .i64 s) := hx.cell 1
          have z0 : w3.cell? ⟨z, 0, none⟩ = some (.int .i64 p'') := hz.cell 0
          have z1 : w3.cell? ⟨z, 1, none⟩ = some (.int .i64 s'') := hz.cell 1
          have HB4 := Lib.hid (bstep HB3.out hb3)
          clear hx hz hb3
          go_wp2_with fail
          refine (q13.out _).mono ?_
          rintro e w4 ⟨rfl, hb4⟩
          clear x0 x1 z0 z1
          have HB5 := Lib.hid (bstep HB4.out hb4)
          clear hb4
          go_wp2_with fail
          refine (known_any _).mono ?_
          rintro e w5 ⟨rfl, hb5⟩
          go_wp2_with fail
          go_ret
          exact ⟨rfl, bstep HB5.out hb5⟩
        · clear ht
          go_wp2_with fail
          refine (q12.out _).mono ?_
          rintro e w2 ⟨rfl, hb2⟩
          have hy := HY.out.below hb2 HY.out.lt
          have hz := HZ.out.below hb2 HZ.out.lt
          clear x0 x1 y0 y1
          have y0 : w2.cell? ⟨y, 0, none⟩ = some (.int .i64 p') := hy.cell 0
          have y1 : w2.cell? ⟨y, 1, none⟩ = some (.int .i64 s') := hy.cell 1
          have z0 : w2.cell? ⟨z, 0, none⟩ = some (.int .i64 p'') := hz.cell 0
          have z1 : w2.cell? ⟨z, 1, none⟩ = some (.int .i64 s'') := hz.cell 1
          have HB3 := Lib.hid (bstep HB2.out hb2)
          clear hy hz hb2
          go_wp2_with fail
          refine (q23.out _).mono ?_
          rintro e w3 ⟨rfl, hb3⟩
          have HB4 := Lib.hid (bstep HB3.out hb3)
          clear hb3 y0 y1 z0 z1
          go_wp2_with fail
          refine (known_any _).mono ?_
          rintro e w5 ⟨rfl, hb5⟩
          go_wp2_with fail
          go_ret
          exact ⟨rfl, bstep HB4.out hb5⟩
      · clear ht
        go_wp2_with fail
        refine (q12.out _).mono ?_
        rintro e w2 ⟨rfl, hb2⟩
        have HB3 := Lib.hid (bstep HB2.out hb2)
        clear hb2 x0 x1 y0 y1
        go_wp2_with fail
        refine (known_any _).mono ?_
        rintro e w5 ⟨rfl, hb5⟩
        go_wp2_with fail
        go_ret
        exact ⟨rfl, bstep HB3.out hb5⟩

theorem queueCompare_walk (i : ByteArray) (hi : i.size ≤ maxLen) (p : Int) (wp : (Lit.int .i64 p).wf = true) (s : Int) (ws : (Lit.int .i64 s).wf = true) (v : Int) (wv : (Lit.int .i64 v).wf = true)
    (i' : ByteArray) (hi' : i'.size ≤ maxLen) (p' : Int) (wp' : (Lit.int .i64 p').wf = true) (s' : Int) (ws' : (Lit.int .i64 s').wf = true) (v' : Int) (wv' : (Lit.int .i64 v').wf = true)
    (i'' : ByteArray) (hi'' : i''.size ≤ maxLen) (p'' : Int) (wp'' : (Lit.int .i64 p'').wf = true) (s'' : Int) (ws'' : (Lit.int .i64 s'').wf = true) (v'' : Int) (wv'' : (Lit.int .i64 v'').wf = true) (w : World) :
    Calls Try.prog 3 #[.agg #[.string i, .int .i64 p, .int .i64 s, .int .i64 v], .agg #[.string i', .int .i64 p', .int .i64 s', .int .i64 v'], .agg #[.string i'', .int .i64 p'', .int .i64 s'', .int .i64 v'']] w fun e w' => e = .returned (.bool true) ∧ Below w.heap.size w w' :=
  compare_walk i p s v i' p' s' v' i'' p'' s'' v'' w
end Go.Proofs.Ytmimfhjmhlmibaa
