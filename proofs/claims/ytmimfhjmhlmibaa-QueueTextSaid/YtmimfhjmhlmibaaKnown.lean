/- The walk of known. -/
import Derived.Test.YtmimfhjmhlmibaaGet
namespace Go.Proofs.Ytmimfhjmhlmibaa
open Go.RowKit Go.MapKept Go.ChangeMaps
set_option linter.unusedVariables false
attribute [local go_sem ↓] Go.wp_at_zero Go.wp_at_succ

/-- a queue of the call's own: all its blocks lie at or beyond B, and nothing below B has turned -/
def Own (B : Nat) (w0 w : World) (q : Nat) (l : List E) : Prop := ∃ g m1 m2, Qu w q g m1 m2 l ∧ (∀ r, ZQ q g m1 m2 r → B ≤ r) ∧ Below B w0 w ∧ B ≤ w.heap.size
theorem Own.below {B : Nat} {w0 w w' : World} {q : Nat} {l : List E} (h : Own B w0 w q l) (hb : Below w.heap.size w w') : Own B w0 w' q l := by
  obtain ⟨g, m1, m2, hq, hz, hB, hs⟩ := h
  exact ⟨g, m1, m2, hq.below hb, hz, hB.trans (hb.mono hs), Nat.le_trans hs hb.size⟩
theorem zq_step {q g g' m1 m2 B N : Nat} (hz : ∀ r, ZQ q g m1 m2 r → B ≤ r) (hN : B ≤ N) (hg : g' = g ∨ N ≤ g') : ∀ r, ZQ q g' m1 m2 r → B ≤ r := by
  rintro r (rfl | rfl | rfl | rfl)
  · exact hz _ (.inl rfl)
  · rcases hg with rfl | h
    · exact hz _ (.inr (.inl rfl))
    · omega
  · exact hz _ (.inr (.inr (.inl rfl)))
  · exact hz _ (.inr (.inr (.inr rfl)))
theorem Own.turn {B : Nat} {w0 w w' : World} {q g m1 m2 : Nat} {l' : List E} (hz : ∀ r, ZQ q g m1 m2 r → B ≤ r) (hB : Below B w0 w) (hs : B ≤ w.heap.size)
    (h : ∃ g', Qu w' q g' m1 m2 l' ∧ (g' = g ∨ w.heap.size ≤ g') ∧ Keep (ZQ q g m1 m2) w w') : Own B w0 w' q l' := by
  obtain ⟨g', hq, hg, hk⟩ := h
  exact ⟨g', m1, m2, hq, zq_step hz hs hg, hB.trans (hk.below hs (fun r hr h => absurd (hz r h) (by omega))), Nat.le_trans hs hk.size⟩

/-- a turn of an own queue -/
def OwnTurned (B : Nat) (w0 : World) (q : Nat) (l' : List E) (r : Ending) (e : Ending) (w' : World) : Prop := e = r ∧ Own B w0 w' q l'
theorem add_own {B : Nat} {w0 w : World} {q : Nat} {l : List E} (x : E) (h : Own B w0 w q l) (hl : l.length ≤ 60000) {l' : List E} {c : Int} (ha : addP x l = (l', c)) :
    Calls Try.prog 25 #[.pointer (some ⟨q, 0, none⟩), .string x.id, .agg #[.int .i64 x.p, .int .i64 x.s], .int .i64 x.v] w (OwnTurned B w0 q l' (.returned (.int .i64 c))) := by
  obtain ⟨g, m1, m2, hq, hz, hB, hs⟩ := h
  refine (add_any q g m1 m2 l x w hq hl).mono ?_
  rintro e w' ⟨rfl, ht⟩
  rw [ha] at ht ⊢
  exact ⟨rfl, Own.turn hz hB hs ht⟩
theorem prom_own {B : Nat} {w0 w : World} {q : Nat} {l : List E} (i : ByteArray) (p : Int) (h : Own B w0 w q l) (hl : l.length ≤ 60000) {l' : List E} {c : Int} (ha : promP i p l = (l', c)) :
    Calls Try.prog 24 #[.pointer (some ⟨q, 0, none⟩), .string i, .int .i64 p] w (OwnTurned B w0 q l' (.returned (.int .i64 c))) := by
  obtain ⟨g, m1, m2, hq, hz, hB, hs⟩ := h
  refine (prom_any q g m1 m2 l i p w hq hl).mono ?_
  rintro e w' ⟨rfl, ht⟩
  rw [ha] at ht ⊢
  exact ⟨rfl, Own.turn hz hB hs ht⟩
theorem first_own {B : Nat} {w0 w : World} {q : Nat} {l : List E} (h : Own B w0 w q l) {r : Ending} (hr : firstOf l = r) :
    Calls Try.prog 31 #[.pointer (some ⟨q, 0, none⟩)] w (OwnTurned B w0 q l r) := by
  have h' := h
  obtain ⟨g, m1, m2, hq, hz, hB, hs⟩ := h
  refine (first_qu q g m1 m2 l w hq).mono ?_
  rintro e w' ⟨rfl, hb⟩
  exact ⟨hr, h'.below hb⟩
theorem len_own {B : Nat} {w0 w : World} {q n : Nat} {l : List E} (h : Own B w0 w q l) (hn : l.length = n) :
    Calls Try.prog 34 #[.pointer (some ⟨q, 0, none⟩)] w fun e w' => e = .returned (.int .i64 (n : Nat)) ∧ w = w' := by
  obtain ⟨g, m1, m2, hq, hz, hB, hs⟩ := h
  subst hn
  exact len_qu q g m1 m2 l w hq
theorem position_own {B : Nat} {w0 w : World} {q : Nat} {l : List E} (i : ByteArray) (h : Own B w0 w q l) (hl : l.length ≤ 60000) (k : Nat) (x : E) (hx : l[k]? = some x) (hi : x.id = i) :
    Calls Try.prog 32 #[.pointer (some ⟨q, 0, none⟩), .string i] w (OwnTurned B w0 q l (.returned (.tuple #[.int .i64 (k : Nat), .int .i64 0]))) := by
  have h' := h
  obtain ⟨g, m1, m2, hq, hz, hB, hs⟩ := h
  obtain ⟨hk, hx⟩ := List.getElem?_eq_some_iff.1 hx
  refine (position_present q g m1 m2 k l i x w hq hl hk hx.symm hi).mono ?_
  rintro e w' ⟨rfl, hb⟩
  exact ⟨rfl, h'.below hb⟩
theorem new_own (w : World) : Calls Try.prog 26 #[] w fun e w' => ∃ q, e = .returned (.pointer (some ⟨q, 0, none⟩)) ∧ Own w.heap.size w w' q [] := by
  refine (new_qu w).mono ?_
  rintro e w' ⟨q, g, m1, m2, rfl, hq, hz, hb⟩
  exact ⟨q, rfl, g, m1, m2, hq, hz, hb, hb.size⟩

def eA : E := ⟨⟨#[97]⟩, 0, 1, 10⟩
def eB : E := ⟨⟨#[98]⟩, 0, 2, 20⟩
def eC : E := ⟨⟨#[99]⟩, 2, 3, 30⟩
def eB2 : E := ⟨⟨#[98]⟩, 2, 2, 20⟩
theorem k1 : addP eA [] = ([eA], 0) := by unfold addP; rw [if_neg (by decide), if_neg (by decide), if_neg (by simp), if_neg (by simp)]; rfl
theorem k2 : addP eB [eA] = ([eA, eB], 0) := by
  unfold addP; rw [if_neg (by decide), if_neg (by decide), if_neg (by simp [eA, eB]), if_neg (by simp [eA, eB])]
  simp [insP, lb, eb, kbef, eA, eB]
theorem k3 : addP eC [eA, eB] = ([eC, eA, eB], 0) := by
  unfold addP; rw [if_neg (by decide), if_neg (by decide), if_neg (by simp [eA, eB, eC]), if_neg (by simp [eA, eB, eC])]
  simp [insP, lb, eb, kbef, eA, eB, eC]
theorem k4 : promP ⟨#[98]⟩ 2 [eC, eA, eB] = ([eB2, eC, eA], 0) := by
  have e : ix ⟨#[98]⟩ [eC, eA, eB] = 2 := by decide
  unfold promP
  simp only [e]
  rw [dif_pos (by decide), if_neg (by decide)]
  simp [insP, remP, lb, eb, kbef, eA, eB, eC, eB2]

set_option maxRecDepth 100000 in
set_option maxHeartbeats 4000000 in
theorem known_any (w : World) : Calls Try.prog 14 #[] w fun e w' => e = .returned (.bool true) ∧ Below w.heap.size w w' := by
  go_enter Try.func14, Try.ntmps14
  go_wp2_with fail
  refine (new_own _).mono ?_
  rintro e w1 ⟨q, rfl, h1⟩
  go_wp2_with fail
  refine (add_own eA h1 (by decide) k1).mono ?_
  clear h1
  rintro e w2 ⟨rfl, h2⟩
  go_wp2_with fail
  refine (add_own eB h2 (by decide) k2).mono ?_
  clear h2
  rintro e w3 ⟨rfl, h3⟩
  go_wp2_with fail
  refine (add_own eC h3 (by decide) k3).mono ?_
  clear h3
  rintro e w4 ⟨rfl, h4⟩
  go_wp2_with fail
  refine (first_own h4 (r := .returned (.tuple #[.string ⟨#[99]⟩, .int .i64 30, .bool true])) rfl).mono ?_
  clear h4
  rintro e w5 ⟨rfl, h5⟩
  go_wp2_with fail
  refine (prom_own ⟨#[98]⟩ 2 h5 (by decide) k4).mono ?_
  clear h5
  rintro e w6 ⟨rfl, h6⟩
  go_wp2_with fail
  refine (position_own ⟨#[98]⟩ h6 (by decide) 0 eB2 rfl rfl).mono ?_
  clear h6
  rintro e w7 ⟨rfl, h7⟩
  go_wp2_with fail
  refine (len_own h7 (n := 3) rfl).mono ?_
  rintro e w8 ⟨rfl, rfl⟩
  go_wp2_with fail
  go_ret
  obtain ⟨_, _, _, _, _, hb, _⟩ := h7
  exact ⟨rfl, hb⟩
end Go.Proofs.Ytmimfhjmhlmibaa
