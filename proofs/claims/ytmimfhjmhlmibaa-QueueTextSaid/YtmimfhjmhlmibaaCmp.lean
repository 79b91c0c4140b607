/- The walks of the comparison of keys: cmp.isNaN, cmp.Compare, cmp.Or, Compare, the reference's Before, validPriority. -/
import Derived.Test.YtmimfhjmhlmibaaRows
import Derived.WalkKit
import Derived.WalkSpells
import Derived.WalkLawsBesides
import Derived.IntWalk
import Derived.Lib.Hide
import Derived.Below
import Derived.Deep.QuietTactic
import Derived.BigQuiet
import Derived.Deep.RegionHeld3
import Derived.Deep.RegionLaw
import Derived.Deep.RegionWith
import Derived.Deep.DrawnRows
namespace Go.Proofs.Ytmimfhjmhlmibaa
open Go.RowKit
set_option linter.unusedVariables false
attribute [local go_sem ↓] Go.wp_at_zero Go.wp_at_succ

theorem bcell {W w1 : World} (hb : Below W.heap.size W w1) : (∀ b o, b < W.heap.size → w1.cell? ⟨b, o, none⟩ = W.cell? ⟨b, o, none⟩) ∧ (∀ b o, b < W.heap.size → w1.frozen? ⟨b, o, none⟩ = W.frozen? ⟨b, o, none⟩) :=
  ⟨fun b o h => hb.cell (p := ⟨b, o, none⟩) h, fun b o h => hb.frozen (p := ⟨b, o, none⟩) h⟩
theorem below_drewN {B : Nat} {a w : World} (h : Below B a w) (n : Nat) : Below B a (w.drewN n) := ⟨h.os, h.tape, h.output, h.size, h.block⟩
theorem bstep {W X w1 : World} (h : Below W.heap.size W X) (hb : Below X.heap.size X w1) : Below W.heap.size W w1 := h.trans (hb.mono h.size)

/-- block g is just the cells cs, none frozen -/
def At (w : World) (g : Nat) (t : TypeId) (cs : Array Value) : Prop := w.heap[g]? = some (.cells cs t (0, 0))
theorem At.lt {w : World} {g : Nat} {t : TypeId} {cs : Array Value} (h : At w g t cs) : g < w.heap.size := by
  rcases Nat.lt_or_ge g w.heap.size with hlt | hge
  · exact hlt
  · unfold At at h; rw [Array.getElem?_eq_none hge] at h; cases h
theorem At.cell {w : World} {g : Nat} {t : TypeId} {cs : Array Value} (h : At w g t cs) (i : Nat) : w.cell? ⟨g, i, none⟩ = cs[i]? := cell_of_row w g i cs t (0, 0) h
theorem At.frozen {w : World} {g : Nat} {t : TypeId} {cs : Array Value} (h : At w g t cs) (i : Nat) : w.frozen? ⟨g, i, none⟩ = false := by
  unfold At at h
  simp [World.frozen?, h]
theorem At.new (w : World) (t : TypeId) (cs : Array Value) : At (w.alloc (.cells cs t)) w.heap.size t cs := heap_alloc_new w _
theorem At.drew {w : World} {g : Nat} {t : TypeId} {cs : Array Value} (h : At w g t cs) : At w.drew g t cs := h
theorem At.drewN {w : World} {g : Nat} {t : TypeId} {cs : Array Value} (h : At w g t cs) (n : Nat) : At (w.drewN n) g t cs := h
theorem At.alloc {w : World} {g : Nat} {t : TypeId} {cs : Array Value} (h : At w g t cs) (o : Obj) : At (w.alloc o) g t cs := (Below.heap_alloc w o g h.lt).trans h
theorem At.set {w : World} {g : Nat} {t : TypeId} {cs : Array Value} (h : At w g t cs) (i : Nat) (u : Value) : At (w.setCell ⟨g, i, none⟩ u) g t (cs.setIfInBounds i u) := by
  unfold At at h ⊢
  simp [World.setCell, Array.getElem?_modify, h]
theorem At.far {w : World} {g : Nat} {t : TypeId} {cs : Array Value} (h : At w g t cs) {p : Addr} (hp : g ≠ p.block) (u : Value) : At (w.setCell p u) g t cs := (Below.heap_setCell w p u g hp).trans h
theorem At.below {w w' : World} {g : Nat} {t : TypeId} {cs : Array Value} {B : Nat} (h : At w g t cs) (hb : Below B w w') (hg : g < B) : At w' g t cs := (hb.block g hg).trans h

theorem ret_bool {a b : Bool} (h : a = b) : Ending.returned (.bool a) = .returned (.bool b) := by rw [h]
theorem ret_int {k : IntKind} {a b : Int} (h : a = b) : Ending.returned (.int k a) = .returned (.int k b) := by rw [h]

set_option maxHeartbeats 400000 in
theorem isNaN_any (a : Int) (w : World) : Calls Try.prog 54 #[.int .i64 a] w fun e w' => e = .returned (.bool false) ∧ w = w' := by
  go_enter Try.func54, Try.ntmps54
  go_wp2_with fail
  go_ret
  exact ⟨ret_bool (by simp), rfl⟩

/-- the order of two ints -/
def cmp2 (a b : Int) : Int := if a < b then -1 else if b < a then 1 else 0
set_option maxHeartbeats 400000 in
theorem cmp_any (a b : Int) (w : World) : Calls Try.prog 36 #[.int .i64 a, .int .i64 b] w fun e w' => e = .returned (.int .i64 (cmp2 a b)) ∧ w = w' := by
  go_enter Try.func36, Try.ntmps36
  go_wp2_with (go_at_call 54; refine (isNaN_any _ _).mono ?_; rintro e w' ⟨rfl, rfl⟩)
  all_goals
    go_ret
    refine ⟨ret_int ?_, rfl⟩
    unfold cmp2
    first
      | (rw [if_pos (by omega)]; done)
      | (rw [if_neg (by omega), if_pos (by omega)]; done)
      | (rw [if_neg (by omega), if_neg (by omega)]; done)

set_option maxHeartbeats 400000 in
theorem valid_any (p : Int) (w : World) : Calls Try.prog 39 #[.int .i64 p] w fun e w' => e = .returned (.bool (decide (0 ≤ p ∧ p ≤ 2))) ∧ w = w' := by
  go_enter Try.func39, Try.ntmps39
  go_wp2_with fail
  all_goals
    go_ret
    refine ⟨ret_bool ?_, rfl⟩
    rw [Bool.eq_iff_iff]
    simp <;> omega

/-- the first of two that is not zero -/
def orV (a b : Int) : Int := if a = 0 then b else a
theorem orV_z (b : Int) : orV 0 b = b := rfl
theorem orV_n {a : Int} (b : Int) (h : ¬ a = 0) : orV a b = a := if_neg h
set_option maxHeartbeats 400000 in
theorem or_any (g : Nat) (a b : Int) (w : World) (hA : At w g 3 #[.int .i64 a, .int .i64 b]) :
    Calls Try.prog 35 #[.slice (some ⟨g, 0, none⟩) 2 2] w fun e w' => e = .returned (.int .i64 (orV a b)) ∧ w = w' := by
  have c0 := hA.cell 0
  have c1 := hA.cell 1
  simp at c0 c1
  go_enter Try.func35, Try.ntmps35
  go_wp2_with fail
  go_loop [8] (fun t => ∃ k : Nat, k ≤ 2 ∧ t = .int .i64 (k : Int) ∧ (1 ≤ k → a = 0) ∧ (2 ≤ k → b = 0)) (fun t => 2 - (intOf t).toNat)
  case atStart => exact ⟨0, by omega, rfl, fun h => absurd h (by omega), fun h => absurd h (by omega)⟩
  case round =>
    obtain ⟨k, hk, rfl, h1, h2⟩ := hrel
    obtain rfl | rfl | rfl : k = 0 ∨ k = 1 ∨ k = 2 := by omega
    · clear h1 h2
      by_cases ha : a = 0
      · subst ha
        go_wp2_with fail
        go_round
        case rel => exact ⟨1, by omega, by go_num, fun _ => (by trivial), fun h => absurd h (by omega)⟩
        case measure => simp [intOf]
      · have hne : (a != 0) = true := by rw [bne_iff_ne]; exact ha
        go_wp2_with fail
        go_ret
        exact ⟨ret_int (orV_n b ha).symm, rfl⟩
    · obtain rfl := h1 (by omega)
      clear h1 h2
      by_cases hb : b = 0
      · subst hb
        go_wp2_with fail
        go_round
        case rel => exact ⟨2, by omega, by go_num, fun _ => (by trivial), fun _ => (by trivial)⟩
        case measure => simp [intOf]
      · have hne : (b != 0) = true := by rw [bne_iff_ne]; exact hb
        go_wp2_with fail
        go_ret
        exact ⟨ret_int (orV_z b).symm, rfl⟩
    · obtain rfl := h1 (by omega)
      obtain rfl := h2 (by omega)
      clear h1 h2
      go_wp2_with fail
      go_ret
      exact ⟨rfl, rfl⟩

/-- the order of two keys -/
def kcmp (p s p' s' : Int) : Int := orV (cmp2 p' p) (cmp2 s s')
set_option maxHeartbeats 1000000 in
theorem compare_any (p s p' s' : Int) (w : World) :
    Calls Try.prog 12 #[.agg #[.int .i64 p, .int .i64 s], .agg #[.int .i64 p', .int .i64 s']] w fun e w' => e = .returned (.int .i64 (kcmp p s p' s')) ∧ Below w.heap.size w w' := by
  have hB : Below w.heap.size w ((w.alloc (.cells #[.int .i64 p, .int .i64 s] 25)).alloc (.cells #[.int .i64 p', .int .i64 s'] 25)) := ((Below.refl _ _).alloc (Nat.le_refl _) _).alloc (by simp) _
  have hx := Lib.hid (rfl : cmp2 p' p = cmp2 p' p)
  go_enter Try.func12, Try.ntmps12
  go_wp2_with fail
  go_region_held3 (fun w' => w'.cell? ⟨w.heap.size, 0, none⟩ = some (.int .i64 p) ∧ w'.cell? ⟨w.heap.size, 1, none⟩ = some (.int .i64 s) ∧ w'.cell? ⟨w.heap.size + 1, 0, none⟩ = some (.int .i64 p') ∧ w'.cell? ⟨w.heap.size + 1, 1, none⟩ = some (.int .i64 s')) (go_keep)
    (first | (go_at_call 36; refine (cmp_any _ _ _).mono ?_; rintro e w' ⟨rfl, rfl⟩) | (go_at_call 35; refine (or_any _ _ _ _ (by have h := At.new ((w.alloc (.cells #[.int .i64 p, .int .i64 s] 25)).alloc (.cells #[.int .i64 p', .int .i64 s'] 25)) 3 #[.int .i64 (cmp2 p' p), .int .i64 (cmp2 s s')]; simp at h; exact h)).mono ?_; rintro e w' ⟨rfl, rfl⟩))
  go_wp2_with fail
  go_ret
  exact ⟨rfl, (hB.alloc (by simp; omega) _).drew⟩

/-- one key is before another -/
def kbef (p s p' s' : Int) : Bool := decide (p' < p ∨ (p = p' ∧ s < s'))
theorem cmp2_lt {a b : Int} (h : a < b) : cmp2 a b = -1 := if_pos h
theorem cmp2_gt {a b : Int} (h : b < a) : cmp2 a b = 1 := by unfold cmp2; rw [if_neg (by omega), if_pos h]
theorem cmp2_eq (a : Int) : cmp2 a a = 0 := by unfold cmp2; rw [if_neg (by omega), if_neg (by omega)]
theorem kcmp_lt {p s p' s' : Int} (h : p' < p ∨ (p = p' ∧ s < s')) : kcmp p s p' s' = -1 := by
  unfold kcmp
  rcases h with h | ⟨rfl, h⟩
  · rw [cmp2_lt h]; rfl
  · rw [cmp2_eq, cmp2_lt h]; rfl
theorem kcmp_gt {p s p' s' : Int} (h : p < p' ∨ (p = p' ∧ s' < s)) : kcmp p s p' s' = 1 := by
  unfold kcmp
  rcases h with h | ⟨rfl, h⟩
  · rw [cmp2_gt h]; rfl
  · rw [cmp2_eq, cmp2_gt h]; rfl
theorem kcmp_eq (p s : Int) : kcmp p s p s = 0 := by unfold kcmp; rw [cmp2_eq, cmp2_eq]; rfl
theorem kcmp_tri (p s p' s' : Int) : (p' < p ∨ (p = p' ∧ s < s')) ∧ kcmp p s p' s' = -1 ∨ (p = p' ∧ s = s') ∧ kcmp p s p' s' = 0 ∨ (p < p' ∨ (p = p' ∧ s' < s)) ∧ kcmp p s p' s' = 1 := by
  by_cases h1 : p' < p ∨ (p = p' ∧ s < s')
  · exact .inl ⟨h1, kcmp_lt h1⟩
  · by_cases h2 : p = p' ∧ s = s'
    · obtain ⟨rfl, rfl⟩ := h2; exact .inr (.inl ⟨⟨rfl, rfl⟩, kcmp_eq p s⟩)
    · have h3 : p < p' ∨ (p = p' ∧ s' < s) := by omega
      exact .inr (.inr ⟨h3, kcmp_gt h3⟩)

set_option maxHeartbeats 1000000 in
/-- the reference's Before -/
theorem before_any (i i' : ByteArray) (p s v p' s' v' : Int) (w : World) :
    Calls Try.prog 13 #[.agg #[.string i, .int .i64 p, .int .i64 s, .int .i64 v], .agg #[.string i', .int .i64 p', .int .i64 s', .int .i64 v']] w fun e w' => e = .returned (.bool (kbef p s p' s')) ∧ Below w.heap.size w w' := by
  by_cases h1 : p' < p
  · go_enter Try.func13, Try.ntmps13
    go_wp2_with fail
    go_ret
    exact ⟨ret_bool (by unfold kbef; simp [h1]), ((Below.refl _ _).alloc (Nat.le_refl _) _).alloc (by simp) _⟩
  · by_cases h2 : p = p'
    · subst h2
      go_enter Try.func13, Try.ntmps13
      go_wp2_with fail
      go_ret
      exact ⟨ret_bool (by unfold kbef; simp), ((Below.refl _ _).alloc (Nat.le_refl _) _).alloc (by simp) _⟩
    · have hb : (p == p') = false := by rw [beq_eq_false_iff_ne]; exact h2
      go_enter Try.func13, Try.ntmps13
      go_wp2_with fail
      go_ret
      exact ⟨ret_bool (by unfold kbef; simp; omega), ((Below.refl _ _).alloc (Nat.le_refl _) _).alloc (by simp) _⟩
end Go.Proofs.Ytmimfhjmhlmibaa
