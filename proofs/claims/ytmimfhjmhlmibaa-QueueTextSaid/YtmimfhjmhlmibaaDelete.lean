/- The walk of slices.Delete at one item. -/
import Derived.Test.YtmimfhjmhlmibaaAdd
namespace Go.Proofs.Ytmimfhjmhlmibaa
open Go.RowKit
set_option linter.unusedVariables false
attribute [local go_sem ↓] Go.wp_at_zero Go.wp_at_succ

theorem zero_entry (w : World) : (zeroValue 88).run Try.prog w = .ok (.agg #[.string ⟨#[]⟩, .int .i64 0, .int .i64 0, .int .i64 0]) w := by go_simp
def Deleted (g cap i : Nat) (l : List E) (w : World) (e : Ending) (w' : World) : Prop :=
  e = .returned (.slice (some ⟨g, 0, none⟩) (l.length - 1) cap) ∧ RowAt w' g cap (remP i l) ∧ Keep (· = g) w w'

theorem RowAt.pull {w : World} {g cap i : Nat} {l : List E} (h : RowAt w g cap l) (hi : i < l.length) (zs : List Value) (hz : zs.length = 4) :
    RowAt ((w.drew.setCells g (i * 4) (rows (l.drop (i + 1)))).setCells g ((l.length - 1) * 4) zs) g cap (remP i l) := by
  obtain ⟨pad, h1, h2⟩ := h
  have hl := rows_length l
  have htl : (rows (l.take i)).length = i * 4 := by rw [rows_length, List.length_take]; congr 1; omega
  have hdl : (rows (l.drop (i + 1))).length = (l.length - 1 - i) * 4 := by rw [rows_length, List.length_drop]; congr 1; omega
  have hd2 : (rows (l.drop i)).length = (l.length - i) * 4 := by rw [rows_length, List.length_drop]
  rw [List.length_append] at h2
  generalize hRe : rows (l.drop i) = R at hd2
  have e : rows l ++ pad = rows (l.take i) ++ R.take ((l.length - 1 - i) * 4) ++ (R.drop ((l.length - 1 - i) * 4) ++ pad) := by
    rw [List.append_assoc, ← List.append_assoc (R.take _), List.take_append_drop, ← hRe, ← List.append_assoc, ← rows_append, List.take_append_drop]
  rw [e] at h1
  have h3 := At.setCells (rows (l.drop (i + 1))) (rows (l.take i)) (R.take ((l.length - 1 - i) * 4)) (R.drop ((l.length - 1 - i) * 4) ++ pad) (by rw [hdl, List.length_take]; omega) h1.drew
  rw [htl, ← rows_append, ← List.append_assoc] at h3
  have hr : (rows (l.take i ++ l.drop (i + 1))).length = (l.length - 1) * 4 := by rw [rows_length]; simp; omega
  have h5 := At.setCells zs (rows (l.take i ++ l.drop (i + 1))) (R.drop ((l.length - 1 - i) * 4)) pad (by rw [hz, List.length_drop]; omega) h3
  rw [hr] at h5
  refine ⟨zs ++ pad, ?_, ?_⟩
  · rw [← List.append_assoc]
    exact h5
  · unfold remP
    rw [List.length_append, hr, List.length_append, hz]
    omega

set_option maxHeartbeats 4000000 in
set_option maxRecDepth 100000 in
theorem delete_any (g cap i : Nat) (l : List E) (w : World) (hi : i < l.length) (hl : l.length ≤ 100000) (hc : cap ≤ 9223372036854775807) (hr : RowAt w g cap l) :
    Calls Try.prog 60 #[.slice (some ⟨g, 0, none⟩) l.length cap, .int .i64 (i : Nat), .int .i64 ((i : Int) + 1)] w (Deleted g cap i l w) := by
  obtain ⟨i0, hi0, hz0, hzs, hzb⟩ := info_parts info_entry
  have mixed : Try.prog.follows .mixedOrders = true := by kernel_rfl
  have hcap : l.length ≤ cap := by
    obtain ⟨pad, h1, h2⟩ := hr
    rw [List.length_append, rows_length] at h2; omega
  obtain ⟨news, hnews⟩ : ∃ news, news = rows (l.drop (i + 1)) := ⟨_, rfl⟩
  have hlen : news.length = (l.length - (i + 1)) * 4 := by rw [hnews, rows_length, List.length_drop]
  obtain ⟨A, hA, hsrc⟩ : ∃ A : Addr, (if cap = i + 1 then some (⟨g, 0, none⟩ : Addr) else some ⟨g, (i + 1) * 4, none⟩) = some A ∧ Hid (∀ t u, news[t]? = some u → w.drew.cell? (A.add t) = some u) := by
    by_cases h : cap = i + 1
    · refine ⟨⟨g, 0, none⟩, by simp [h], fun t u hu => ?_⟩
      have h0 : news.length = 0 := by rw [hlen]; omega
      rw [List.length_eq_zero_iff.1 h0] at hu
      simp at hu
    · refine ⟨⟨g, (i + 1) * 4, none⟩, by simp [h], fun t u hu => ?_⟩
      rw [Addr.add_lit]
      refine hr.cell _ u ?_
      rw [hnews, ← rows_drop, List.getElem?_drop] at hu
      exact hu
  have s2 : Hid (∀ u ∈ news, u.oneCell' = true) := by rw [hnews]; exact one_rows _
  have s3 : Hid (∀ t, t < news.length → (w.drew.cell? ⟨g, 0 + i * 4 + t, none⟩).isSome = true ∧ w.drew.frozen? ⟨g, 0 + i * 4 + t, none⟩ = false) := by
    intro t ht
    rw [hlen] at ht
    exact ⟨hr.some _ (by omega), hr.frozen _⟩
  obtain ⟨W1, hW1⟩ : ∃ W1, W1 = w.drew.setCells g (0 + i * 4) news := ⟨_, rfl⟩
  obtain ⟨zs, hzz, hzl, hzo⟩ : ∃ zs : List Value, (Builtin.zeroCells (Value.agg #[.string ⟨#[]⟩, .int .i64 0, .int .i64 0, .int .i64 0]).cells 1).toList = zs ∧ zs.length = 4 ∧ ∀ v ∈ zs, v.oneCell' = true := by
    refine ⟨[.string ⟨#[]⟩, .int .i64 0, .int .i64 0, .int .i64 0], by kernel_rfl, rfl, ?_⟩
    intro v hv
    simp at hv
    rcases hv with rfl | rfl <;> rfl
  have hsome : ∀ j, j < cap * 4 → (W1.cell? ⟨g, j, none⟩).isSome = true := fun j hj => by
    rw [hW1]
    exact isSome_setCells g news (0 + i * 4) w.drew (fun t ht => (s3.out t ht).1) _ (hr.some j hj)
  have e1 : i + (l.length - (i + 1)) = l.length - 1 := by omega
  have hcl : ∀ ty c, (Builtin.clear_ #[85] ty #[.slice (some ⟨g, (i + (l.length - (i + 1))) * 4, none⟩) (l.length - (i + (l.length - (i + 1)))) c]).run Try.prog W1 = .ok (.tuple #[]) (W1.setCells g ((l.length - 1) * 4) zs) := fun ty c => by
    rw [show l.length - (i + (l.length - (i + 1))) = 1 by omega, e1]
    exact clear_cellsN W1 _ _ ty _ Try.underlying85 zero_entry g ((l.length - 1) * 4) 1 c (by omega) zs hzz hzo (fun j hj => hsome _ (by omega)) (fun j hj => by rw [hW1, World.frozen?_setCells]; exact hr.frozen _)
  have fin : Deleted g cap i l w (.returned (.slice (some ⟨g, 0, none⟩) (i + (l.length - (i + 1))) cap)) (W1.setCells g ((l.length - 1) * 4) zs) := by
    refine ⟨by rw [e1], ?_, ?_⟩
    · rw [hW1, hnews, Nat.zero_add]
      exact hr.pull hi zs hzl
    · rw [hW1]
      exact ((Keep.drew _ _).trans (Keep.cells1 _ _ _ _)).trans (Keep.cells1 _ _ _ _)
  have FIN := Lib.hid fin
  have hW : Hid (W1 = w.drew.setCells g (0 + i * 4) news) := hW1
  have s1 := Lib.hid hlen
  have hic : i ≤ cap := by omega
  have hjc : i + 1 ≤ cap := by omega
  have hw1 : IntKind.i64.wrap ((i : Int) + 1) = (i : Int) + 1 := by rw [IntKind.wrap_i64]; omega
  have hb1 : (0 : Int) ≤ (i : Int) + 1 := by omega
  have htn : ((i : Int) + 1).toNat = i + 1 := by omega
  have hne : ¬ ((i : Int) = (i : Int) + 1) := by omega
  have hle : (i : Int) + 1 ≤ (l.length : Int) := by omega
  clear hW1 hr hnews hlen hzz hzl hzo hsome e1 fin
  go_enter Try.func60, Try.ntmps60
  go_wp2_with fail
  go_region_law_o (refine step_append_room rfl (.tmp 22) (.tmp 25) 85 rfl 88 i0 4 Try.underlying85 hi0 hzs g 0 i cap (by simp [Act.eval, Act.put]) A (l.length - (i + 1)) (cap - (i + 1)) news (by simp [Act.eval, Act.put]) s1.out hsrc.out s2.out (by omega) s3.out ?_; rw [← hW.out])
  go_wp2_with fail
  go_ret
  exact FIN.out
end Go.Proofs.Ytmimfhjmhlmibaa
