/- The walk of the reference's insert. -/
import Derived.Test.YtmimfhjmhlmibaaRefC
namespace Go.Proofs.Ytmimfhjmhlmibaa
open Go.RowKit Go.MapKept Go.ChangeMaps
set_option linter.unusedVariables false
attribute [local go_sem ↓] Go.wp_at_zero Go.wp_at_succ

def appRun (d u : Value) (w : World) (v' : Value) (w' : World) : Prop := (Builtin.append_ #[33, 33] 33 #[d, u]).run Try.prog w = .ok v' w'
/-- the three appends, the item's block laid ahead of them -/
theorem chainA {wr W0 : World} {N M at' n : Nat} {u1 u3 : Value} {x : E} {l : List E} (hb : Below wr.heap.size wr W0) (hN : wr.heap.size ≤ N) (hMN : M ≠ N) (hF0 : Fr W0 N 0 []) (hM : At W0 M 23 (ecells x).toArray) (hn : n = l.length) (hat : at' ≤ n) (hl : n ≤ 60000)
    (hs1 : ∀ W, Below wr.heap.size wr W → Src Try.prog 4 33 u1 at' (rows (l.take at')) W) (hs3 : ∀ W, Below wr.heap.size wr W → Src Try.prog 4 33 u3 (n - at') (rows (l.drop at')) W) :
    ∃ (g1 c1 g2 c2 g3 c3 : Nat) (w1 w2 w3 : World), appRun (.slice (some ⟨N, 0, none⟩) 0 0) u1 W0 (.slice (some ⟨g1, 0, none⟩) (0 + at') c1) w1 ∧
      appRun (.slice (some ⟨g1, 0, none⟩) (0 + at') c1) (.slice (some ⟨M, 0, none⟩) 1 1) w1 (.slice (some ⟨g2, 0, none⟩) (0 + at' + 1) c2) w2 ∧
      appRun (.slice (some ⟨g2, 0, none⟩) (0 + at' + 1) c2) u3 w2 (.slice (some ⟨g3, 0, none⟩) (0 + at' + 1 + (n - at')) c3) w3 ∧
      Fr w3 g3 c3 (rows (l.take at' ++ x :: l.drop at')) ∧ wr.heap.size ≤ g3 ∧ Below wr.heap.size wr w1 ∧ Below wr.heap.size wr w2 ∧ Below wr.heap.size wr w3 := by
  have htl : (rows (l.take at')).length = (0 + at') * 4 := by rw [rows_length, List.length_take]; congr 1; omega
  obtain ⟨v1, w1, hr1, g1, c1, rfl, hF1, hg1, hk1⟩ := app_run hF0 (n := 0) rfl (hs1 _ hb) (by omega)
  have hb1 := hb.trans (hk1.below hb.size (fun r hr h => by omega))
  have hM1 := hM.keep hk1 hMN
  have hs0 := hb.size
  rw [List.nil_append] at hF1
  obtain ⟨v2, w2, hr2, g2, c2, rfl, hF2, hg2, hk2⟩ := app_run hF1 htl (u := .slice (some ⟨M, 0, none⟩) 1 1) (m := 1) (news := ecells x) (Src.ofSlice w1 und_xs ⟨M, 0, none⟩ 1 1 _ rfl (fun j u hj => by rw [Addr.add_lit, Nat.zero_add, hM1.cell]; simpa using hj) (oneX x)) (by omega)
  have hb2 := hb1.trans (hk2.below hb1.size (fun r hr h => by omega))
  have hs1' := hb1.size
  obtain ⟨v3, w3, hr3, g3, c3, rfl, hF3, hg3, hk3⟩ := app_run hF2 (n := 0 + at' + 1) (by rw [List.length_append, htl]; simp [ecells]; omega) (hs3 _ hb2) (by omega)
  have hb3 := hb2.trans (hk3.below hb2.size (fun r hr h => by omega))
  have hs2' := hb2.size
  refine ⟨g1, c1, g2, c2, g3, c3, w1, w2, w3, hr1 _, hr2 _, hr3 _, ?_, by omega, hb1, hb2, hb3⟩
  have e : rows (l.take at' ++ x :: l.drop at') = rows (l.take at') ++ ecells x ++ rows (l.drop at') := by rw [rows_append]; simp [rows]
  rw [e]
  exact hF3
/-- the three appends, the item's block laid behind the first -/
theorem chainB {wr W0 : World} {N at' n : Nat} {u1 u3 : Value} {x : E} {l : List E} (hb : Below wr.heap.size wr W0) (hN : wr.heap.size ≤ N) (hF0 : Fr W0 N 0 []) (hn : n = l.length) (hat : at' ≤ n) (hl : n ≤ 60000)
    (hs1 : ∀ W, Below wr.heap.size wr W → Src Try.prog 4 33 u1 at' (rows (l.take at')) W) (hs3 : ∀ W, Below wr.heap.size wr W → Src Try.prog 4 33 u3 (n - at') (rows (l.drop at')) W) :
    ∃ (g1 c1 g2 c2 g3 c3 : Nat) (w1 w2 w3 : World), appRun (.slice (some ⟨N, 0, none⟩) 0 0) u1 W0 (.slice (some ⟨g1, 0, none⟩) (0 + at') c1) w1 ∧
      appRun (.slice (some ⟨g1, 0, none⟩) at' c1) (.slice (some ⟨w1.heap.size, 0, none⟩) 1 1) (w1.alloc (.cells (ecells x).toArray 23)) (.slice (some ⟨g2, 0, none⟩) (at' + 1) c2) w2 ∧
      appRun (.slice (some ⟨g2, 0, none⟩) (at' + 1) c2) u3 w2 (.slice (some ⟨g3, 0, none⟩) (at' + 1 + (n - at')) c3) w3 ∧
      Fr w3 g3 c3 (rows (l.take at' ++ x :: l.drop at')) ∧ wr.heap.size ≤ g3 ∧ Below wr.heap.size wr w1 ∧ Below wr.heap.size wr w2 ∧ Below wr.heap.size wr w3 := by
  have htl : (rows (l.take at')).length = at' * 4 := by rw [rows_length, List.length_take]; congr 1; omega
  obtain ⟨v1, w1, hr1, g1, c1, rfl, hF1, hg1, hk1⟩ := app_run hF0 (n := 0) rfl (hs1 _ hb) (by omega)
  have hb1 := hb.trans (hk1.below hb.size (fun r hr h => by omega))
  have hs0 := hb.size
  rw [List.nil_append] at hF1
  have hM1 := At.new w1 23 (ecells x).toArray
  have hF1' := hF1.keep (Keep.alloc (fun _ => False) w1 (.cells (ecells x).toArray 23)) id
  have hb1' := hb1.alloc hb1.size (.cells (ecells x).toArray 23)
  obtain ⟨v2, w2, hr2, g2, c2, rfl, hF2, hg2, hk2⟩ := app_run hF1' htl (u := .slice (some ⟨w1.heap.size, 0, none⟩) 1 1) (m := 1) (news := ecells x) (Src.ofSlice _ und_xs ⟨w1.heap.size, 0, none⟩ 1 1 _ rfl (fun j u hj => by rw [Addr.add_lit, Nat.zero_add, hM1.cell]; simpa using hj) (oneX x)) (by omega)
  have hb2 := hb1'.trans (hk2.below hb1'.size (fun r hr h => by omega))
  have hs1' := hb1'.size
  obtain ⟨v3, w3, hr3, g3, c3, rfl, hF3, hg3, hk3⟩ := app_run hF2 (n := at' + 1) (by rw [List.length_append, htl]; simp [ecells]; omega) (hs3 _ hb2) (by omega)
  have hb3 := hb2.trans (hk3.below hb2.size (fun r hr h => by omega))
  have hs2' := hb2.size
  refine ⟨g1, c1, g2, c2, g3, c3, w1, w2, w3, hr1 _, hr2 _, hr3 _, ?_, by omega, hb1, hb2, hb3⟩
  have e : rows (l.take at' ++ x :: l.drop at') = rows (l.take at') ++ ecells x ++ rows (l.drop at') := by rw [rows_append]; simp [rows]
  rw [e]
  exact hF3
end Go.Proofs.Ytmimfhjmhlmibaa
