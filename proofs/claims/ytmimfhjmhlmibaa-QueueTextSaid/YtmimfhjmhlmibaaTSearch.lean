/- BinarySearchFunc and find of the queue of texts. -/
import Derived.Test.YtmimfhjmhlmibaaTPlain
import Derived.Deep.DeepCutAuto
namespace Go.Proofs.Ytmimfhjmhlmibaa.T
open Go.RowKit
set_option linter.unusedVariables false
attribute [local go_sem ↓] Go.wp_at_zero Go.wp_at_succ

set_option maxHeartbeats 1000000 in
theorem findcmp_any (i : ByteArray) (p s : Int) (v : ByteArray) (p' s' : Int) (w : World) :
    Calls Try.prog 67 #[.agg #[.string i, .int .i64 p, .int .i64 s, .string v], .agg #[.int .i64 p', .int .i64 s']] w fun e w' => e = .returned (.int .i64 (kcmp p s p' s')) ∧ Below w.heap.size w w' := by
  go_enter Try.func67, Try.ntmps67
  go_wp2_with fail
  refine (compare_any _ _ _ _ _).mono ?_
  rintro e w' ⟨rfl, hb⟩
  go_wp2_with fail
  go_ret
  exact ⟨rfl, bstep (((Below.refl _ _).alloc (Nat.le_refl _) _).alloc (by simp) _) hb⟩

/-- the row's items, as a walk reads them -/
def Reads (w : World) (g : Nat) (l : List E) : Prop := ∀ (k : Nat) (h : k < l.length),
  w.cell? ⟨g, k * 4, none⟩ = some (.string l[k].id) ∧ w.cell? ⟨g, k * 4 + 1, none⟩ = some (.int .i64 l[k].p) ∧ w.cell? ⟨g, k * 4 + 2, none⟩ = some (.int .i64 l[k].s) ∧ w.cell? ⟨g, k * 4 + 3, none⟩ = some (.string (bang l[k].id))
theorem Reads.below {w w' : World} {g : Nat} {l : List E} {B : Nat} (h : Reads w g l) (hb : Below B w w') (hg : g < B) : Reads w' g l := fun k hk => by
  obtain ⟨h1, h2, h3, h4⟩ := h k hk
  exact ⟨(hb.cell (p := ⟨g, _, none⟩) hg).trans h1, (hb.cell (p := ⟨g, _, none⟩) hg).trans h2, (hb.cell (p := ⟨g, _, none⟩) hg).trans h3, (hb.cell (p := ⟨g, _, none⟩) hg).trans h4⟩

def SearchP (i : Nat) (w : World) (e : Ending) (w' : World) : Prop := ∃ b : Bool, e = .returned (.tuple #[.int .i64 (i : Int), .bool b]) ∧ Below w.heap.size w w'

set_option maxRecDepth 100000 in
set_option maxHeartbeats 2000000 in
theorem search_any (A : Option Addr) (g cap : Nat) (l : List E) (p s : Int) (w : World) (hs : Sorted l) (hr : Reads w g l) (hg : g < w.heap.size) (hA : 0 < l.length → A = some ⟨g, 0, none⟩) (hl : l.length ≤ 100000) :
    Calls Try.prog 66 #[.slice A l.length cap, .agg #[.int .i64 p, .int .i64 s], .func (Fn.func 67) #[] #[]] w (SearchP (lb p s l) w) := by
  have HS := Lib.hid hs
  have HR := Lib.hid hr
  have HA := Lib.hid hA
  clear hs hr hA
  have hB0 : Below w.heap.size w (w.alloc (.cells #[.int .i64 p, .int .i64 s] 25)) := (Below.refl _ _).alloc (Nat.le_refl _) _
  have hK0 := At.new w 25 #[.int .i64 p, .int .i64 s]
  go_enter Try.func66, Try.ntmps66
  go_wp2_with fail
  go_loopw [9, 10] (fun t9 t10 wr => ∃ i j : Nat, i ≤ j ∧ j ≤ l.length ∧ t9 = .int .i64 (i : Int) ∧ t10 = .int .i64 (j : Int) ∧ (∀ (k : Nat) (hk : k < l.length), k < i → eb p s l[k] = true) ∧ (∀ (k : Nat) (hk : k < l.length), j ≤ k → eb p s l[k] = false) ∧
      Below w.heap.size w wr ∧ At wr w.heap.size 25 #[.int .i64 p, .int .i64 s]) (fun t9 t10 _ => (intOf t10 - intOf t9).toNat)
  case atStart => exact ⟨0, l.length, by omega, by omega, rfl, rfl, fun k hk h => absurd h (by omega), fun k hk h => absurd hk (by omega), hB0, hK0⟩
  case round =>
    obtain ⟨i, j, hij, hj, rfl, rfl, h1, h2, hB, hK⟩ := hrel
    have H1 := Lib.hid h1
    have H2 := Lib.hid h2
    clear h1 h2 hB0 hK0
    have k0 := hK.cell 0
    have k1 := hK.cell 1
    simp at k0 k1
    have hs2 := hK.lt
    have hg2 : g < wr.heap.size := by omega
    by_cases hlt : i < j
    · have hm : (i + j) / 2 < l.length := by omega
      obtain ⟨c0, c1, c2, c3⟩ := (HR.out.below hB hg) ((i + j) / 2) hm
      obtain rfl := HA.out (by omega)
      have b0 : (0 : Int) ≤ ((i : Int) + (j : Int)) / 2 := by omega
      have b1 : ((i : Int) + (j : Int)) / 2 < (l.length : Int) := by omega
      have hq := fun W => findcmp_any (l[(i + j) / 2]).id (l[(i + j) / 2]).p (l[(i + j) / 2]).s (bang (l[(i + j) / 2]).id) p s W
      cases he : eb p s l[(i + j) / 2]
      case' true =>
        rw [kcmp_lt (kbef_iff.1 he)] at hq
        have hn1 : ∀ (k : Nat) (hk : k < l.length), k < (i + j) / 2 + 1 → eb p s l[k] = true := fun k hk hki => eb_down HS.out _ k hm (by omega) he
        have HN1 := Lib.hid hn1
        clear hn1
      case' false =>
        have hk0 : 0 ≤ kcmp (l[(i + j) / 2]).p (l[(i + j) / 2]).s p s := by
          rcases kcmp_tri (l[(i + j) / 2]).p (l[(i + j) / 2]).s p s with h | h | h
          · exact absurd h.1 (kbef_false.1 he)
          · rw [h.2]; decide
          · rw [h.2]; decide
        have hn2 : ∀ (k : Nat) (hk : k < l.length), (i + j) / 2 ≤ k → eb p s l[k] = false := fun k hk hki => eb_up HS.out _ k hk hki he
        have HN2 := Lib.hid hn2
        generalize kcmp (l[(i + j) / 2]).p (l[(i + j) / 2]).s p s = K at *
        clear hn2
      all_goals
        have HQ := Lib.hid hq
        have htn : (((i : Int) + (j : Int)) / 2).toNat = (i + j) / 2 := by omega
        clear he hq
        go_wp2_with fail
        go_region_held3 (fun w' => w'.cell? ⟨g, (i + j) / 2 * 4, none⟩ = some (.string (l[(i + j) / 2]).id) ∧ w'.cell? ⟨g, (i + j) / 2 * 4 + 1, none⟩ = some (.int .i64 (l[(i + j) / 2]).p) ∧ w'.cell? ⟨g, (i + j) / 2 * 4 + 2, none⟩ = some (.int .i64 (l[(i + j) / 2]).s) ∧ w'.cell? ⟨g, (i + j) / 2 * 4 + 3, none⟩ = some (.string (bang (l[(i + j) / 2]).id)) ∧
            w'.cell? ⟨w.heap.size, 0, none⟩ = some (.int .i64 p) ∧ w'.cell? ⟨w.heap.size, 1, none⟩ = some (.int .i64 s) ∧ Below wr.heap.size wr w') (first | exact ⟨c0, c1, c2, c3, k0, k1, (Below.refl _ _).drew⟩ | exact ⟨n0, n1, n2, n3, n4, n5, nB⟩)
          (first | (go_at_call 67; refine (HQ.out _).mono ?_; rintro e w2 ⟨rfl, hb2⟩; obtain ⟨hc2, hf2⟩ := bcell hb2; obtain ⟨s0, s1, s2, s3, s4, s5, sB⟩ := ‹_ ∧ _ ∧ _ ∧ _ ∧ _ ∧ _ ∧ Below wr.heap.size wr _›; have hg3 := Nat.lt_of_lt_of_le hg2 sB.size; have hs3 := Nat.lt_of_lt_of_le hs2 sB.size; have n0 := (hc2 _ _ hg3).trans s0; have n1 := (hc2 _ _ hg3).trans s1; have n2 := (hc2 _ _ hg3).trans s2; have n3 := (hc2 _ _ hg3).trans s3; have n4 := (hc2 _ _ hs3).trans s4; have n5 := (hc2 _ _ hs3).trans s5; have nB := bstep sB hb2; clear hc2 hf2 hg3 hs3))
        go_wp2_with fail
        go_roundw
        case rel =>
          first
            | exact ⟨(i + j) / 2 + 1, j, by omega, by omega, congrArg (Value.int .i64) (by omega), rfl, HN1.out, H2.out, bstep hB nB, hK.below nB hs2⟩
            | exact ⟨i, (i + j) / 2, by omega, by omega, rfl, congrArg (Value.int .i64) (by omega), H1.out, HN2.out, bstep hB nB, hK.below nB hs2⟩
        case measure => simp [intOf]; omega
    · obtain rfl : i = j := by omega
      have hlb := Lib.hid (lb_of i hj H1.out H2.out)
      clear H1 H2
      by_cases hin : i < l.length
      · obtain ⟨c0, c1, c2, c3⟩ := (HR.out.below hB hg) i hin
        obtain rfl := HA.out (by omega)
        have b0 : (0 : Int) ≤ (i : Int) := by omega
        have b1 : (i : Int) < (l.length : Int) := by omega
        have hd : decide ((i : Int) < (l.length : Int)) = true := by simpa using hin
        have hq := fun W => findcmp_any (l[i]).id (l[i]).p (l[i]).s (bang (l[i]).id) p s W
        generalize kcmp (l[i]).p (l[i]).s p s = K at *
        have HQ := Lib.hid hq
        clear hq
        go_wp2_with fail
        go_region_held3 (fun w' => w'.cell? ⟨g, i * 4, none⟩ = some (.string (l[i]).id) ∧ w'.cell? ⟨g, i * 4 + 1, none⟩ = some (.int .i64 (l[i]).p) ∧ w'.cell? ⟨g, i * 4 + 2, none⟩ = some (.int .i64 (l[i]).s) ∧ w'.cell? ⟨g, i * 4 + 3, none⟩ = some (.string (bang (l[i]).id)) ∧
            w'.cell? ⟨w.heap.size, 0, none⟩ = some (.int .i64 p) ∧ w'.cell? ⟨w.heap.size, 1, none⟩ = some (.int .i64 s) ∧ Below wr.heap.size wr w') (first | exact ⟨c0, c1, c2, c3, k0, k1, (Below.refl _ _).drew⟩ | exact ⟨n0, n1, n2, n3, n4, n5, nB⟩)
          (first | (go_at_call 67; refine (HQ.out _).mono ?_; rintro e w2 ⟨rfl, hb2⟩; obtain ⟨hc2, hf2⟩ := bcell hb2; obtain ⟨s0, s1, s2, s3, s4, s5, sB⟩ := ‹_ ∧ _ ∧ _ ∧ _ ∧ _ ∧ _ ∧ Below wr.heap.size wr _›; have hg3 := Nat.lt_of_lt_of_le hg2 sB.size; have hs3 := Nat.lt_of_lt_of_le hs2 sB.size; have n0 := (hc2 _ _ hg3).trans s0; have n1 := (hc2 _ _ hg3).trans s1; have n2 := (hc2 _ _ hg3).trans s2; have n3 := (hc2 _ _ hg3).trans s3; have n4 := (hc2 _ _ hs3).trans s4; have n5 := (hc2 _ _ hs3).trans s5; have nB := bstep sB hb2; clear hc2 hf2 hg3 hs3))
        go_wp2_with fail
        go_ret2
        exact ⟨K == 0, by rw [hlb.out]; rfl, bstep hB nB⟩
      · have hd : decide ((i : Int) < (l.length : Int)) = false := by simp; omega
        have hd2 : ¬ (i : Int) < (l.length : Int) := by omega
        go_wp2_with fail
        go_quiet (fail)
        go_wp2_with fail
        go_ret2
        exact ⟨false, by rw [hlb.out]; rfl, below_drewN hB _⟩

set_option maxHeartbeats 1000000 in
/-- find -/
theorem find_any (q g cap : Nat) (A : Option Addr) (l : List E) (p s : Int) (m1 m2 : Value) (w : World) (hs : Sorted l) (hr : Reads w g l) (hg : g < w.heap.size) (hA : 0 < l.length → A = some ⟨g, 0, none⟩) (hl : l.length ≤ 100000)
    (hQ : At w q 75 #[.slice A l.length cap, m1, m2]) :
    Calls Try.prog 56 #[.pointer (some ⟨q, 0, none⟩), .agg #[.int .i64 p, .int .i64 s]] w fun e w' => e = .returned (.int .i64 (lb p s l : Nat)) ∧ Below w.heap.size w w' := by
  have hq := hQ.lt
  have HS := Lib.hid hs
  have HA := Lib.hid hA
  have HR := Lib.hid hr
  have HQ := Lib.hid hQ
  clear hs hA hr hQ
  go_enter Try.func56, Try.ntmps56
  go_wp2_with fail
  have hB1 : Below w.heap.size w (w.alloc (.cells #[.int .i64 p, .int .i64 s] 25)) := (Below.refl _ _).alloc (Nat.le_refl _) _
  have hK1 := At.new w 25 #[.int .i64 p, .int .i64 s]
  generalize w.alloc (.cells #[.int .i64 p, .int .i64 s] 25) = wr at *
  have q0 := (HQ.out.below hB1 hq).cell 0
  have k0 := hK1.cell 0
  have k1 := hK1.cell 1
  simp at q0 k0 k1
  have hs2 := hK1.lt
  have hq2 : q < wr.heap.size := by omega
  have hg2 : g < wr.heap.size := by omega
  have HR2 := Lib.hid (HR.out.below hB1 hg)
  clear HR HQ
  go_region_held3 (fun w' => w'.cell? ⟨q, 0, none⟩ = some (.slice A l.length cap) ∧ w'.cell? ⟨w.heap.size, 0, none⟩ = some (.int .i64 p) ∧ w'.cell? ⟨w.heap.size, 1, none⟩ = some (.int .i64 s) ∧ Below wr.heap.size wr w') (first | exact ⟨q0, k0, k1, (Below.refl _ _).drew⟩ | exact ⟨n0, n1, n2, nB⟩)
    (first | (go_at_call 66; obtain ⟨s0, s1, s2, sB⟩ := ‹_ ∧ _ ∧ _ ∧ Below wr.heap.size wr _›; refine (search_any _ _ _ _ _ _ _ HS.out (HR2.out.below sB hg2) (Nat.lt_of_lt_of_le hg2 sB.size) HA.out hl).mono ?_; rintro e w2 ⟨b, rfl, hb2⟩; obtain ⟨hc2, hf2⟩ := bcell hb2; have hq3 := Nat.lt_of_lt_of_le hq2 sB.size; have hs3 := Nat.lt_of_lt_of_le hs2 sB.size; have n0 := (hc2 _ _ hq3).trans s0; have n1 := (hc2 _ _ hs3).trans s1; have n2 := (hc2 _ _ hs3).trans s2; have nB := bstep sB hb2; clear hc2 hf2 hq3 hs3))
  go_wp2_with fail
  go_ret
  exact ⟨rfl, bstep hB1 nB⟩
end Go.Proofs.Ytmimfhjmhlmibaa.T
