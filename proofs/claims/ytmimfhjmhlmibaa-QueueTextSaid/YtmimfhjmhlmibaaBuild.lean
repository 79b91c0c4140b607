/- The operations in memory; the walk of build. -/
import Derived.Test.YtmimfhjmhlmibaaDo
namespace Go.Proofs.Ytmimfhjmhlmibaa
open Go.RowKit Go.MapKept Go.ChangeMaps
set_option linter.unusedVariables false
attribute [local go_sem ↓] Go.wp_at_zero Go.wp_at_succ

/-- S is a slice of operations that reads as os -/
def OL (w : World) (S : Value) (os : List (Int × E)) : Prop := (∃ A cap, S = .slice A 0 cap ∧ os = []) ∨
  ∃ b off cap : Nat, S = .slice (some ⟨b, off, none⟩) os.length cap ∧ b < w.heap.size ∧ os.length ≤ 9223372036854775807 ∧ ∀ (k : Nat) (h : k < os.length), 0 ≤ os[k].1 ∧ os[k].1 ≤ 255 ∧
    w.cell? ⟨b, off + k * 5, none⟩ = some (.int .u8 os[k].1) ∧ w.cell? ⟨b, off + k * 5 + 1, none⟩ = some (.string os[k].2.id) ∧ w.cell? ⟨b, off + k * 5 + 2, none⟩ = some (.int .i64 os[k].2.p) ∧ w.cell? ⟨b, off + k * 5 + 3, none⟩ = some (.int .i64 os[k].2.s) ∧ w.cell? ⟨b, off + k * 5 + 4, none⟩ = some (.int .i64 os[k].2.v)
theorem OL.below {w w' : World} {S : Value} {os : List (Int × E)} (h : OL w S os) (hb : Below w.heap.size w w') : OL w' S os := by
  rcases h with h | ⟨b, off, cap, h1, h2, h3, h4⟩
  · exact .inl h
  · refine .inr ⟨b, off, cap, h1, Nat.lt_of_lt_of_le h2 hb.size, h3, fun k hk => ?_⟩
    obtain ⟨a1, a2, a3, a4, a5, a6, a7⟩ := h4 k hk
    exact ⟨a1, a2, (hb.cell (p := ⟨b, _, none⟩) h2).trans a3, (hb.cell (p := ⟨b, _, none⟩) h2).trans a4, (hb.cell (p := ⟨b, _, none⟩) h2).trans a5, (hb.cell (p := ⟨b, _, none⟩) h2).trans a6, (hb.cell (p := ⟨b, _, none⟩) h2).trans a7⟩
/-- what the first n operations leave, from l on -/
noncomputable def foldP (n : Nat) (os : List (Int × E)) (l : List E) : List E := (os.take n).foldl (fun l o => stepP o.1 o.2 l) l
theorem foldP_zero (os : List (Int × E)) (l : List E) : foldP 0 os l = l := by unfold foldP; simp
theorem foldP_succ (os : List (Int × E)) (l : List E) (k : Nat) (h : k < os.length) : foldP (k + 1) os l = stepP os[k].1 os[k].2 (foldP k os l) := by
  unfold foldP
  rw [List.take_succ_eq_append_getElem h, List.foldl_append]
  rfl
theorem foldP_all (os : List (Int × E)) (l : List E) (n : Nat) (h : os.length ≤ n) : foldP n os l = foldP os.length os l := by
  unfold foldP
  rw [List.take_of_length_le h, List.take_of_length_le (Nat.le_refl _)]
theorem length_foldP (os : List (Int × E)) (l : List E) (k : Nat) : (foldP k os l).length ≤ l.length + k := by
  induction k with
  | zero => rw [foldP_zero]; omega
  | succ k ih =>
    by_cases h : k < os.length
    · rw [foldP_succ os l k h]
      have := length_stepP os[k].1 os[k].2 (foldP k os l)
      omega
    · have e : foldP (k + 1) os l = foldP k os l := by rw [foldP_all os l (k + 1) (by omega), foldP_all os l k (by omega)]
      rw [e]; omega

/-- both of one's own: all blocks at or beyond B -/
def BothOwn (B : Nat) (w0 w : World) (q : Nat) (v : Value) (l : List E) : Prop := ∃ g m1 m2, Both w q g m1 m2 v l ∧ (∀ r, ZQ q g m1 m2 r → B ≤ r) ∧ (∀ b, v.ownBlock = some b → B ≤ b) ∧ Below B w0 w ∧ B ≤ w.heap.size
theorem BothOwn.did {B : Nat} {w0 w w' : World} {q g m1 m2 : Nat} {v : Value} {l' : List E} {e : Ending} (hz : ∀ r, ZQ q g m1 m2 r → B ≤ r) (hv : ∀ b, v.ownBlock = some b → B ≤ b) (hB : Below B w0 w) (hs : B ≤ w.heap.size)
    (h : Did q g m1 m2 v l' w e w') : ∃ v', e = .returned (.tuple #[v', .bool true]) ∧ BothOwn B w0 w' q v' l' := by
  obtain ⟨v', g', rfl, hb, hg, hv', hk⟩ := h
  refine ⟨v', rfl, g', m1, m2, hb, zq_step hz hs hg, ?_, hB.trans (hk.below hs (fun r hr h => absurd (hz r h) (by omega))), Nat.le_trans hs hk.size⟩
  intro b h1
  rcases hv' b h1 with h2 | h2
  · exact hv b h2
  · omega
theorem do_own {B : Nat} {w0 w : World} {q : Nat} {v : Value} {l : List E} (k : Int) (x : E) (h : BothOwn B w0 w q v l) (hl : l.length ≤ 60000) (hk0 : 0 ≤ k) (hk1 : k ≤ 255) :
    Calls Try.prog 27 #[.pointer (some ⟨q, 0, none⟩), v, .agg #[.int .u8 k, .string x.id, .int .i64 x.p, .int .i64 x.s, .int .i64 x.v]] w fun e w' => ∃ v', e = .returned (.tuple #[v', .bool true]) ∧ BothOwn B w0 w' q v' (stepP k x l) := by
  obtain ⟨g, m1, m2, hb, hz, hv, hB, hs⟩ := h
  exact (do_any q g m1 m2 v l k x w hb hl hk0 hk1).mono fun e w' h => BothOwn.did hz hv hB hs h
theorem BothOwn.start {w0 w : World} {q : Nat} (h : Own w0.heap.size w0 w q []) : BothOwn w0.heap.size w0 w q (.slice none 0 0) [] := by
  obtain ⟨g, m1, m2, hq, hz, hB, hs⟩ := h
  exact ⟨g, m1, m2, ⟨hq, RL.nil w, fun g hg => by simp [Value.ownBlock] at hg⟩, hz, fun b hb => by simp [Value.ownBlock] at hb, hB, hs⟩

/-- what build leaves -/
def Built (os : List (Int × E)) (w : World) (e : Ending) (w' : World) : Prop := ∃ (q : Nat) (v : Value), e = .returned (.tuple #[.pointer (some ⟨q, 0, none⟩), v]) ∧ BothOwn w.heap.size w w' q v (foldP 60 os [])

set_option maxRecDepth 100000 in
set_option maxHeartbeats 8000000 in
theorem build_any (S : Value) (os : List (Int × E)) (w : World) (h : OL w S os) : Calls Try.prog 19 #[S] w (Built os w) := by
  rcases h with ⟨A, cap, rfl, rfl⟩ | ⟨b, off, cap, rfl, hb, hlen, hcells⟩
  · go_enter Try.func19, Try.ntmps19
    go_wp2_with fail
    refine (new_own _).mono ?_
    rintro e w1 ⟨q, rfl, h1⟩
    have H1 := Lib.hid (BothOwn.start h1)
    clear h1
    go_wp2_with fail
    go_loop [5, 6] (fun t5 t => t5 = .slice none 0 0 ∧ t = .int .i64 0) (fun _ t => 0)
    case atStart => exact ⟨rfl, rfl⟩
    case round =>
      obtain ⟨rfl, rfl⟩ := hrel
      go_wp2_with fail
      go_ret2
      exact ⟨q, _, rfl, H1.out⟩
  · have HC := Lib.hid hcells
    clear hcells
    go_enter Try.func19, Try.ntmps19
    go_wp2_with fail
    refine (new_own _).mono ?_
    rintro e w1 ⟨q, rfl, h1⟩
    have H1 := Lib.hid (BothOwn.start h1)
    clear h1
    go_wp2_with fail
    go_loopw [5, 6] (fun t5 t6 wr => ∃ k : Nat, k ≤ os.length ∧ k ≤ 60 ∧ t6 = .int .i64 (k : Int) ∧ BothOwn w.heap.size w wr q t5 (foldP k os [])) (fun _ t6 _ => 60 - (intOf t6).toNat)
    case atStart => exact ⟨0, by omega, by omega, rfl, by rw [foldP_zero]; exact H1.out⟩
    case round =>
      obtain ⟨k, hk, hk60, rfl, hbo⟩ := hrel
      have HBO := Lib.hid hbo
      clear hbo
      by_cases hlt : k < os.length
      · by_cases h60 : k < 60
        · obtain ⟨a1, a2, c0, c1, c2, c3, c4⟩ := HC.out k hlt
          obtain ⟨g, m1, m2, hbb, hz, hv, hB, hs⟩ := HBO.out
          have d0 := (hB.cell (p := ⟨b, off + k * 5, none⟩) hb).trans c0
          have d1 := (hB.cell (p := ⟨b, off + k * 5 + 1, none⟩) hb).trans c1
          have d2 := (hB.cell (p := ⟨b, off + k * 5 + 2, none⟩) hb).trans c2
          have d3 := (hB.cell (p := ⟨b, off + k * 5 + 3, none⟩) hb).trans c3
          have d4 := (hB.cell (p := ⟨b, off + k * 5 + 4, none⟩) hb).trans c4
          have b0 : (0 : Int) ≤ (k : Int) := by omega
          have b1 : (k : Int) < (os.length : Int) := by omega
          clear c0 c1 c2 c3 c4 hbb hz hv hB
          go_wp2_with fail
          refine (do_own os[k].1 os[k].2 HBO.out (by have := length_foldP os [] k; simp at this; omega) a1 a2).mono ?_
          rintro e w2 ⟨v', rfl, h2⟩
          have H2 := Lib.hid h2
          clear h2
          go_wp2_with fail
          go_roundw
          case rel => exact ⟨k + 1, by omega, by omega, by go_num, by rw [foldP_succ os [] k hlt]; exact H2.out⟩
          case measure => simp [intOf]; omega
        · obtain rfl : k = 60 := by omega
          go_wp2_with fail
          go_ret2
          exact ⟨q, _, rfl, HBO.out⟩
      · have e : k = os.length := by omega
        have h1 := HBO.out
        rw [e, ← foldP_all os [] 60 (by omega)] at h1
        have HF := Lib.hid h1
        have hd : decide (k < os.length) = false := by simp; omega
        clear h1 e
        go_wp2_with fail
        go_ret2
        exact ⟨q, _, rfl, HF.out⟩
end Go.Proofs.Ytmimfhjmhlmibaa
