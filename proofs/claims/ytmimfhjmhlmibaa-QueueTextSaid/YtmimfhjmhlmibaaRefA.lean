/- The reference's lists in memory; the walk of Find. -/
import Derived.Test.YtmimfhjmhlmibaaKnown
import Derived.Deep.AppendLies
namespace Go.Proofs.Ytmimfhjmhlmibaa
open Go.RowKit Go.MapKept Go.ChangeMaps
set_option linter.unusedVariables false
attribute [local go_sem ↓] Go.wp_at_zero Go.wp_at_succ

/-- v is a slice of the reference's items that reads as l -/
def RL (w : World) (v : Value) (l : List E) : Prop := w.ownsRow 0 23 4 v l.length (rows l)
/-- the block of a slice -/
def Off (Z : Nat → Prop) (v : Value) : Prop := ∀ g, v.ownBlock = some g → ¬ Z g
theorem RL.nil (w : World) : RL w (.slice none 0 0) [] := World.ownsRow_nil _ _ _ _
theorem RL.lt {w : World} {v : Value} {l : List E} (h : RL w v l) : ∀ g, v.ownBlock = some g → g < w.heap.size := fun g hg => (World.ownsRow.lt h g hg).2
theorem own_form {w : World} {B : Nat} {v : Value} {l : List E} (h : w.ownsRow B 23 4 v l.length (rows l)) : (v = .slice none 0 0 ∧ l = []) ∨ ∃ g cap : Nat, v = .slice (some ⟨g, 0, none⟩) l.length cap ∧ B ≤ g ∧ g < w.heap.size ∧ l.length ≤ cap ∧ cap ≤ 9223372036854775807 ∧ Reads w g l := by
  rcases h.2 with ⟨h1, h2⟩ | ⟨g, cap, cur, h1, hb, h2, h3, h4, h5, h6⟩
  · exact .inl ⟨h1, List.length_eq_zero_iff.1 h2⟩
  · refine .inr ⟨g, cap, h1, hb, (Array.getElem?_eq_some_iff.1 h2).1, h3, by unfold maxLen at h4; omega, ?_⟩
    have hc : ∀ j u, (rows l)[j]? = some u → w.cell? ⟨g, j, none⟩ = some u := fun j u hu => by
      rw [cell_of_row w g j cur _ (0, 0) h2]
      rw [← h6, List.getElem?_take] at hu
      split at hu
      · simpa using hu
      · cases hu
    intro k hk
    refine ⟨hc _ _ ?_, hc _ _ ?_, hc _ _ ?_, hc _ _ ?_⟩
    · have := rows_get l k 0 hk (by omega); rw [Nat.add_zero] at this; rw [this]; rfl
    · rw [rows_get l k 1 hk (by omega)]; rfl
    · rw [rows_get l k 2 hk (by omega)]; rfl
    · rw [rows_get l k 3 hk (by omega)]; rfl
theorem RL.form {w : World} {v : Value} {l : List E} (h : RL w v l) : (v = .slice none 0 0 ∧ l = []) ∨ ∃ g cap : Nat, v = .slice (some ⟨g, 0, none⟩) l.length cap ∧ g < w.heap.size ∧ l.length ≤ cap ∧ cap ≤ 9223372036854775807 ∧ Reads w g l := by
  rcases own_form h with h | ⟨g, cap, h1, _, h2⟩
  · exact .inl h
  · exact .inr ⟨g, cap, h1, h2⟩
theorem own_base {w : World} {B B' : Nat} {t : TypeId} {s : Nat} {v : Value} {n : Nat} {xs : List Value} (h : w.ownsRow B t s v n xs) (hB : B' ≤ B) : w.ownsRow B' t s v n xs := by
  refine ⟨h.1, ?_⟩
  rcases h.2 with h1 | ⟨g, cap, cur, h1, hb, h2⟩
  · exact .inl h1
  · exact .inr ⟨g, cap, cur, h1, Nat.le_trans hB hb, h2⟩
theorem own_held {w w' : World} {B : Nat} {t : TypeId} {s : Nat} {v : Value} {n : Nat} {xs : List Value} (h : w.ownsRow B t s v n xs) (e : ∀ g, v.ownBlock = some g → w'.heap[g]? = w.heap[g]?) : w'.ownsRow B t s v n xs := by
  refine ⟨h.1, ?_⟩
  rcases h.2 with h1 | ⟨g, cap, cur, h1, hb, h2, h3⟩
  · exact .inl h1
  · exact .inr ⟨g, cap, cur, h1, hb, (e g (by rw [h1]; rfl)).trans h2, h3⟩
theorem RL.keep {Z : Nat → Prop} {w w' : World} {v : Value} {l : List E} (h : RL w v l) (k : Keep Z w w') (hz : Off Z v) : RL w' v l :=
  own_held h fun g hg => k.block g (hz g hg) (h.lt g hg)
theorem RL.below {w w' : World} {v : Value} {l : List E} (h : RL w v l) (hb : Below w.heap.size w w') : RL w' v l :=
  h.keep (Z := fun _ => False) (.of hb) (fun _ _ => id)

theorem toList_ne {a b : ByteArray} (h : ¬ a = b) : (a.toList == b.toList) = false := by
  rw [beq_eq_false_iff_ne, Lib.toList_data, Lib.toList_data]
  intro e
  exact h (ByteArray.ext (Array.ext' e))
/-- what Find answers -/
def fxP (i : ByteArray) (l : List E) : Int := if ix i l < l.length then (ix i l : Nat) else -1
theorem ix_before {i : ByteArray} {l : List E} (k : Nat) (hk : k < ix i l) : (l[k]'(Nat.lt_of_lt_of_le hk (ix_le i l))).id ≠ i := by
  have := List.not_of_lt_findIdx hk
  simpa using this

set_option maxRecDepth 100000 in
set_option maxHeartbeats 2000000 in
theorem rfind_any (v : Value) (i : ByteArray) (l : List E) (w : World) (h : RL w v l) (hl : l.length ≤ 60000) :
    Calls Try.prog 37 #[v, .string i] w fun e w' => e = .returned (.int .i64 (fxP i l)) ∧ w = w' := by
  rcases h.form with ⟨rfl, rfl⟩ | ⟨g, cap, rfl, hg, hc, hm, hr⟩
  · go_enter Try.func37, Try.ntmps37
    go_wp2_with fail
    go_loop [5] (fun t => t = .int .i64 0) (fun t => 0)
    case atStart => rfl
    case round =>
      obtain rfl := hrel
      go_wp2_with fail
      go_ret
      exact ⟨rfl, rfl⟩
  · have HR := Lib.hid hr
    have hix := ix_le i l
    clear h hr
    go_enter Try.func37, Try.ntmps37
    go_wp2_with fail
    go_loop [5] (fun t => ∃ k : Nat, k ≤ ix i l ∧ t = .int .i64 (k : Int)) (fun t => l.length - (intOf t).toNat)
    case atStart => exact ⟨0, Nat.zero_le _, rfl⟩
    case round =>
      obtain ⟨k, hk, rfl⟩ := hrel
      by_cases hlt : k < l.length
      · have c0 := (HR.out k hlt).1
        have b0 : (0 : Int) ≤ (k : Int) := by omega
        have b1 : (k : Int) < (l.length : Int) := by omega
        by_cases hkk : k = ix i l
        · have hid : l[k].id = i := by subst hkk; exact ix_id hlt
          have hf := Lib.hid (show fxP i l = (k : Int) by unfold fxP; rw [if_pos (by omega), ← hkk])
          rw [hid] at c0
          clear hid hkk hk hix
          go_wp2_with fail
          go_ret
          exact ⟨ret_int hf.out.symm, rfl⟩
        · have hne : ¬ l[k].id = i := ix_before k (by omega)
          have hne2 := toList_ne hne
          go_wp2_with fail
          go_round
          case rel => exact ⟨k + 1, by omega, by go_num⟩
          case measure => simp [intOf]; omega
      · have hf := Lib.hid (show fxP i l = -1 by unfold fxP; rw [if_neg (by omega)])
        clear hk
        go_wp2_with fail
        go_ret
        exact ⟨ret_int hf.out.symm, rfl⟩
end Go.Proofs.Ytmimfhjmhlmibaa
