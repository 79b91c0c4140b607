/- The walk of the law QueueText. -/
import Derived.Test.YtmimfhjmhlmibaaTextP
import Derived.Test.YtmimfhjmhlmibaaTLoop
import Derived.Test.YtmimfhjmhlmibaaLoop
import Derived.Test.YtmimfhjmhlmibaaOpenT
namespace Go.Proofs.Ytmimfhjmhlmibaa.T
open Go.RowKit Go.MapKept Go.ChangeMaps Go.Shelf
set_option linter.unusedVariables false
attribute [local go_sem ↓] Go.wp_at_zero Go.wp_at_succ
attribute [local go_sem] Oper.semAt_some

theorem ol_form {w : World} {S : Value} {os : List (Int × E)} (h : OL w S os) : ∃ (SA : Option Addr) (sc : Nat), S = .slice SA os.length sc ∧ ∀ (k : Nat) (h : k < os.length), ∃ b off : Nat, SA = some ⟨b, off, none⟩ ∧ b < w.heap.size ∧ 0 ≤ os[k].1 ∧ os[k].1 ≤ 255 ∧
    w.cell? ⟨b, off + k * 5, none⟩ = some (.int .u8 os[k].1) ∧ w.cell? ⟨b, off + k * 5 + 1, none⟩ = some (.string os[k].2.id) ∧ w.cell? ⟨b, off + k * 5 + 2, none⟩ = some (.int .i64 os[k].2.p) ∧ w.cell? ⟨b, off + k * 5 + 3, none⟩ = some (.int .i64 os[k].2.s) ∧ w.cell? ⟨b, off + k * 5 + 4, none⟩ = some (.int .i64 os[k].2.v) := by
  rcases h with ⟨A, cap, rfl, rfl⟩ | ⟨b, off, cap, rfl, hb, -, hc⟩
  · exact ⟨A, cap, rfl, fun k h => absurd h (Nat.not_lt_zero _)⟩
  · exact ⟨_, cap, rfl, fun k h => ⟨b, off, rfl, hb, hc k h⟩⟩
theorem leave1 {w W : World} {r D : Nat} {u : Value} (hr : At W r 4 #[u]) (h1 : W.heap[D]? = some (.deferred (some []))) (hb : Below w.heap.size w W) (br : w.heap.size ≤ r) (b1 : w.heap.size ≤ D) :
    (W.setCell ⟨r, 0, none⟩ (.bool true)).heap[D]? = some (.deferred (some [])) ∧
    ((W.setCell ⟨r, 0, none⟩ (.bool true)).putObj D (.deferred none)).cell? ⟨r, 0, none⟩ = some (.bool true) ∧
    Below w.heap.size w ((W.setCell ⟨r, 0, none⟩ (.bool true)).putObj D (.deferred none)) := by
  have n1 : r ≠ D := fun e => by
    subst e
    rw [show W.heap[r]? = _ from hr] at h1
    cases h1
  have k1 : (W.setCell ⟨r, 0, none⟩ (.bool true)).heap[D]? = some (.deferred (some [])) := (Below.heap_setCell W ⟨r, 0, none⟩ _ D (Ne.symm n1)).trans h1
  have h5 := hr.set 0 (.bool true)
  simp at h5
  have h6 : At ((W.setCell ⟨r, 0, none⟩ (.bool true)).putObj D (.deferred none)) r 4 #[.bool true] := (World.putObj_heap_other n1).trans h5
  exact ⟨k1, h6.cell 0, (hb.setCell (p := ⟨r, 0, none⟩) br _).trans (belowK_b (w := w) (Nat.le_refl _) _ D _ _ b1 k1 rfl rfl)⟩
/-- what holds between two rounds of QueueText's range -/
def TextI (bn : Nat) (wb : World) (pre : List (ByteArray × ByteArray)) (W : World) : Prop := At W bn 3 #[.int .i64 (pre.length : Nat)] ∧ Below bn wb W
theorem textI_own (bn : Nat) (wb : World) (n : Nat) (hn : bn ≤ n) (hB : bn ≤ wb.heap.size) : OwnFrom n (TextI bn wb) :=
  (ownFrom_at n _ _ (fun pre : List (ByteArray × ByteArray) => #[.int .i64 (pre.length : Nat)])).and (ownFrom_low hn hB)

set_option maxRecDepth 100000 in
set_option maxHeartbeats 16000000 in
theorem queueText_walk (S : Value) (os : List (Int × E)) (w : World) (h : OL w S os) (hsz : ∀ o ∈ os, o.2.id.size ≤ reachBytes) :
    Calls Try.prog 4 #[S] w fun e w' => e = .returned (.bool true) ∧ Below w.heap.size w w' := by
  obtain ⟨SA, sc, rfl, hcells⟩ := ol_form h
  have HC := Lib.hid hcells
  have HSZ := Lib.hid hsz
  clear h hcells hsz
  have hB0 : Below w.heap.size w (w.alloc (.cells #[.bool false] 4)) := (Below.refl _ _).alloc (Nat.le_refl _) _
  have a2 := At.new w 4 #[.bool false]
  refine (callsIn_wide (n := 5)).1 (callsIn_of_wp_marks Try.func4 rfl trivial ?_ rfl)
  simp only [Try.ntmps4, List.size_toArray, List.length_cons, List.length_nil, Nat.reduceAdd, Nat.reduceSub, Array.replicate_succ, Array.replicate_zero, List.push_toArray, List.append_toArray, List.nil_append, List.cons_append]
  refine wpIn_wide.2 ?_
  go_wp2_with fail
  refine (known_any _).mono ?_
  rintro e w0 ⟨rfl, hb0⟩
  have hB1 := bstep hB0 hb0
  have b2 := a2.below hb0 a2.lt
  clear a2 hB0 hb0
  go_wp2_with fail
  refine (new_own _).mono ?_
  rintro e w1 ⟨q, rfl, g0, m10, m20, hq0, hz0, hb1, hs1⟩
  have hx : Below w1.heap.size w1 (w1.alloc (.cells #[.slice none 0 0] 33)) := (Below.refl _ _).alloc (Nat.le_refl _) _
  have hT0 : TI w0.heap.size w0 w1.heap.size q (.slice none 0 0) (foldT 0 os []) (w1.alloc (.cells #[.slice none 0 0] 33)) := by
    rw [foldT_zero]
    exact ⟨g0, m10, m20, ⟨hq0.below hx, RL.nil _, fun g hg => by simp [Value.ownBlock] at hg⟩, fun r z => ⟨hz0 r z, Nat.ne_of_lt (hq0.zlt r z)⟩, fun b hb => by simp [Value.ownBlock] at hb, hb1.trans (hx.mono hs1), At.new w1 _ _⟩
  have hw0 := b2.lt
  have hws := hB1.size
  have HB1 := Lib.hid hB1
  have HB2 := Lib.hid b2
  have HT0 := Lib.hid hT0
  clear hB1 b2 hT0 hq0 hz0 hb1 hx
  go_wp2_with fail
  go_loopw [5] (fun t5 wr => ∃ k : Nat, (k ≤ os.length ∧ k ≤ 60) ∧ t5 = .int .i64 (k : Int) ∧ w1.heap.size < wr.heap.size ∧ ∃ v, TI w0.heap.size w0 w1.heap.size q v (foldT k os []) wr) (fun t5 _ => 60 - (intOf t5).toNat)
  case atStart => exact ⟨0, ⟨Nat.zero_le _, by omega⟩, rfl, by simp, _, HT0.out⟩
  case round =>
    obtain ⟨k, ⟨hk, hk60⟩, rfl, hwr, v, hT⟩ := hrel
    have HT := Lib.hid hT
    clear hT
    by_cases hlt : k < os.length
    · by_cases h60 : k < 60
      · obtain ⟨b, off, rfl, hb, a1, a2, c0, c1, c2, c3, c4⟩ := HC.out k hlt
        obtain ⟨g, m1, m2, hbb, hz, hvz, hB, hcL⟩ := HT.out
        have hBw : Below w.heap.size w wr := HB1.out.trans (hB.mono hws)
        have d0 := (hBw.cell (p := ⟨b, off + k * 5, none⟩) hb).trans c0
        have d1 := (hBw.cell (p := ⟨b, off + k * 5 + 1, none⟩) hb).trans c1
        have d2 := (hBw.cell (p := ⟨b, off + k * 5 + 2, none⟩) hb).trans c2
        have d3 := (hBw.cell (p := ⟨b, off + k * 5 + 3, none⟩) hb).trans c3
        have d4 := (hBw.cell (p := ⟨b, off + k * 5 + 4, none⟩) hb).trans c4
        have b0 : (0 : Int) ≤ (k : Int) := by omega
        have b1 : (k : Int) < (os.length : Int) := by omega
        have hlf := length_foldT os [] k
        simp only [List.length_nil] at hlf
        have hz1 := Lib.hid (HSZ.out os[k] (List.getElem_mem hlt))
        have hx1 : Below wr.heap.size wr (wr.alloc (.cells #[.int .u8 os[k].1, .string os[k].2.id, .int .i64 os[k].2.p, .int .i64 os[k].2.s, .int .i64 os[k].2.v] 35)) := (Below.refl _ _).alloc (Nat.le_refl _) _
        have ho := At.new wr 35 #[.int .u8 os[k].1, .string os[k].2.id, .int .i64 os[k].2.p, .int .i64 os[k].2.s, .int .i64 os[k].2.v]
        by_cases h4 : os[k].1 % 4 = 0
        · have h4' : os[k].1.tmod 4 = 0 := by rw [Int.tmod_eq_emod_of_nonneg a1]; exact h4
          have e1 : (os[k].1.tmod 4 == 0) = true := by rw [h4']; rfl
          have e3 : (os[k].1.tmod 4 != 0) = false := by rw [h4']; rfl
          have e4 : (os[k].1 % 4 != 0) = false := by rw [h4]; rfl
          have e5 : (os[k].1 % 4 == 0) = true := by rw [h4]; rfl
          have HBB := Lib.hid hbb
          have HZ := Lib.hid hz
          have HVZ := Lib.hid hvz
          have HBX := Lib.hid hB
          have HCL := Lib.hid hcL
          have HO := Lib.hid ho
          have HX1 := Lib.hid hx1
          have H4 := Lib.hid h4
          have i4 : ∀ o, (wr.alloc o).cell? ⟨w1.heap.size, 0, none⟩ = some v := fun o => (hcL.alloc o).cell 0
          clear c0 c1 c2 c3 c4 hbb hz hvz hB hBw hcL ho hx1 h4 h4'
          go_wp2_with fail
          refine (radd_any v (foldT k os []) os[k].2 _ (HBB.out.rl.below HX1.out) (by omega)).mono ?_
          rintro e w2 ⟨v', rfl, hrl2, hv2, hb2⟩
          have hO2 := HO.out.below hb2 HO.out.lt
          obtain ⟨Av2, gv2, cv2, rfl, -, -, -, -⟩ := hrl2.form2 hO2.lt
          have k1 : w2.cell? ⟨wr.heap.size, 1, none⟩ = some (.string os[k].2.id) := hO2.cell 1
          have k2 : w2.cell? ⟨wr.heap.size, 2, none⟩ = some (.int .i64 os[k].2.p) := hO2.cell 2
          have k3 : w2.cell? ⟨wr.heap.size, 3, none⟩ = some (.int .i64 os[k].2.s) := hO2.cell 3
          have hbb2 := bstep HX1.out hb2
          have HRL := Lib.hid hrl2
          have HV2 := Lib.hid hv2
          have HB2' := Lib.hid hbb2
          have hcat : os[k].2.id.size + 1 ≤ 9223372036854775807 := by have := hz1.out; have := reachBytes_lt; omega
          clear hO2 hrl2 hv2 hb2 hbb2 i4 d0 d1 d2 d3 d4
          go_wp2_with fail
          refine (add_any q g m1 m2 (foldT k os []) os[k].2 w2 (HBB.out.qu.below HB2'.out) (by omega)).mono ?_
          rintro e w3 ⟨rfl, hq3⟩
          obtain ⟨hc3, hk3, hT3⟩ := ti_step HBB.out HZ.out HVZ.out HBX.out (by omega) hs1 HCL.out HRL.out (fun b hb => by
            rcases HV2.out b hb with h | h
            · exact .inl h
            · simp at h; exact .inr (by omega)) HB2'.out hq3
          have c4 : w3.cell? ⟨w1.heap.size, 0, none⟩ = some v := hc3.cell 0
          have g4 := hc3.frozen 0
          have hs3 := hk3.size
          have HT3 := Lib.hid hT3
          clear hc3 hk3 hT3 hq3 k1 k2 k3 hcat
          go_wp2_with fail
          go_roundw
          case rel => exact ⟨k + 1, ⟨hlt, h60⟩, by go_num, by simp; omega, _, by rw [foldT_succ os [] k hlt, stepT, if_pos H4.out]; exact HT3.out⟩
          case measure => simp [intOf]; omega
        · have h4' : ¬ os[k].1.tmod 4 = 0 := by rw [Int.tmod_eq_emod_of_nonneg a1]; exact h4
          have e1 : (os[k].1.tmod 4 == 0) = false := beq_eq_false_iff_ne.2 h4'
          have e3 : (os[k].1.tmod 4 != 0) = true := by rw [bne, e1]; rfl
          have e5 : (os[k].1 % 4 == 0) = false := beq_eq_false_iff_ne.2 h4
          have e4 : (os[k].1 % 4 != 0) = true := by rw [bne, e5]; rfl
          have HX1 := Lib.hid hx1
          have H4 := Lib.hid h4
          clear c0 c1 c2 c3 c4 hbb hz hvz hB hBw hcL ho hx1 h4 h4'
          go_wp2_with fail
          go_roundw
          case rel => exact ⟨k + 1, ⟨hlt, h60⟩, by go_num, by simp; omega, v, by rw [foldT_succ os [] k hlt, stepT, if_neg H4.out]; exact HT.out.below (by omega) HX1.out⟩
          case measure => simp [intOf]; omega
      · obtain rfl : k = 60 := by omega
        have hshort := short_foldT os 60
        have hlf := length_foldT os [] 60
        simp only [List.length_nil] at hlf
        generalize foldT 60 os [] = L at *
        obtain ⟨g, m1, m2, hbb, hz, hvz, hB, hcL⟩ := HT.out
        obtain ⟨Av, gv, cv, rfl, hgv, hAv, hrv, -⟩ := hbb.rl.form2 hcL.lt
        have hr2 := HB2.out.below hB hw0
        have HQ := Lib.hid hbb.qu
        have HRW := Lib.hid hrv
        have HR2 := Lib.hid hr2
        have HCL := Lib.hid hcL
        have HBW := Lib.hid (HB1.out.trans (hB.mono hws))
        have HSH := Lib.hid hshort
        clear hbb hz hvz hB hcL hrv hr2 hshort
        go_wp2_with (go_at_call 18; refine (all_any _ _).mono ?_; rintro e w' ⟨rfl, rfl⟩)
        have hB3 : Below wr.heap.size wr (((wr.alloc (.cells #[.int .i64 0] 3)).alloc (.cells #[.pointer (some ⟨q, 0, none⟩)] 31)).alloc (.cells #[.func (.func 42) #[] #[]] 84)) := (((Below.refl wr.heap.size _).alloc (Nat.le_refl _) _).alloc (by simp) _).alloc (by simp; omega) _
        have b7 := ((At.new wr 3 #[.int .i64 0]).alloc (.cells #[.pointer (some ⟨q, 0, none⟩)] 31)).alloc (.cells #[.func (.func 42) #[] #[]] 84)
        have bq := (At.new (wr.alloc (.cells #[.int .i64 0] 3)) 31 #[.pointer (some ⟨q, 0, none⟩)]).alloc (.cells #[.func (.func 42) #[] #[]] 84)
        have bo := At.new ((wr.alloc (.cells #[.int .i64 0] 3)).alloc (.cells #[.pointer (some ⟨q, 0, none⟩)] 31)) 84 #[.func (.func 42) #[] #[]]
        have hsl : (((wr.alloc (.cells #[.int .i64 0] 3)).alloc (.cells #[.pointer (some ⟨q, 0, none⟩)] 31)).alloc (.cells #[.func (.func 42) #[] #[]] 84)).heap.size = wr.heap.size + 1 + 1 + 1 := by simp
        simp only [World.size_alloc] at bq bo
        generalize (((wr.alloc (.cells #[.int .i64 0] 3)).alloc (.cells #[.pointer (some ⟨q, 0, none⟩)] 31)).alloc (.cells #[.func (.func 42) #[] #[]] 84)) = wl at *
        have hQl := HQ.out.below (w' := wl) hB3
        have lr := HR2.out.lt
        have lc := HCL.out.lt
        obtain ⟨A, cap, hA, hr, hc⟩ := hQl.body
        refine (wpIn_wide (n := 5)).1 ?_
        refine wpIn_rangeFunc_ownH (w := wl) rfl (by omega) (gf := 57) (lb := #[.pointer (some ⟨wr.heap.size + 1, 0, none⟩), .pointer (some ⟨wr.heap.size + 1 + 1, 0, none⟩)]) rfl trivial (enters_of Try.func57 (by kernel_rfl) rfl)
          (all_stops 4 (by omega) (Zs (fun r => r = wr.heap.size)) 0 q g (wr.heap.size + 1) (wr.heap.size + 1 + 1) cap A L (.map (some m1)) (.map (some m2)) wl (still_zs _ _) (Nat.zero_le _) (bq.cell 0) (bo.cell 0) hA hr hQl.row (by omega) (fun r z => by have : r = wr.heap.size := z; omega) (fun z => by have : wr.heap.size + 1 + 1 = wr.heap.size := z; omega))
          kpz_t kpz_b (Below.refl _ _) (fun _ => rfl) (TextI wr.heap.size wr) (fun c pre W => ¬ pre <+: pairs L) (textI_own _ _ _ (by omega) (by omega)) (fun c => ownFrom_pure _ _)
          ⟨b7, hB3⟩
          (fun y a' W => a' = { tmps := #[.slice SA os.length sc, undef, .pointer (some ⟨w.heap.size, 0, none⟩), .pointer (some ⟨q, 0, none⟩), .pointer (some ⟨w1.heap.size, 0, none⟩), .int .i64 60, u6, u7, u8, .pointer (some ⟨wr.heap.size, 0, none⟩), .string y.1, .string y.2, .bool true, .bool false, .pointer (some ⟨q, 0, none⟩), .int .i64 60, .slice SA os.length sc, .int .i64 (os.length : Nat), .bool true, .bool true, .int .i64 60, .bool false, .bool false, u23, u24, u25, u26, u27, u28, u29, u30, u31, u32, u33, u34, u35, u36, u37, u38, u39, u40, u41, u42, u43, u44, u45, u46, u47, u48, u49, u50, u51, u52, u53, u54, u55, u56, u57, u58, .pointer (some ⟨q, 0, none⟩), .func (.func 57) #[] #[.pointer (some ⟨wr.heap.size + 1, 0, none⟩), .pointer (some ⟨wr.heap.size + 1 + 1, 0, none⟩)], .string y.1, .string y.2, undef, undef, undef, undef, undef, undef, undef, undef, undef, undef, undef, undef, undef, undef, undef, undef, undef, undef, undef, undef, undef, undef, undef, undef, undef, undef, undef, undef], defers := [] }) (fun _ _ _ _ _ _ hs _ _ => hs) ?assign ?body ?done ?stop
        case assign =>
          intro lb pre x W K hi hK
          gi_wp2
          exact hK _ _ (KeepsFrom.refl _ _) (KpZ.refl _ _) hi rfl
        case body =>
          rintro lb pre y a' W hlb hrec ⟨i7, hBW⟩ rfl hlen
          obtain rfl := hAv (by omega)
          have i2 := HR2.out.below hBW (by omega)
          have i4 := HCL.out.below hBW (by omega)
          have c2 : W.cell? ⟨w.heap.size, 0, none⟩ = some (.bool false) := i2.cell 0
          have g2 := i2.frozen 0
          have c4 : W.cell? ⟨w1.heap.size, 0, none⟩ = some (.slice (some ⟨gv, 0, none⟩) L.length cv) := i4.cell 0
          have c7 : W.cell? ⟨wr.heap.size, 0, none⟩ = some (.int .i64 (pre.length : Nat)) := i7.cell 0
          have g7 := i7.frozen 0
          obtain ⟨r0, -, -, -⟩ := (HRW.out.below hBW hgv) pre.length hlen
          have d0 : (0 : Int) ≤ (pre.length : Int) := by omega
          have d1 : (pre.length : Int) < (L.length : Int) := by omega
          have hmax := HSH.out L[pre.length] (List.getElem_mem hlen)
          have HI7 := Lib.hid i7
          have HB := Lib.hid hBW
          clear i2 i4 i7 hBW hrec hA hr hQl b7 bq bo hAv
          by_cases hy : L[pre.length].id = y.1
          · have hyb : (L[pre.length].id.toList == y.1.toList) = true := by rw [hy]; simp
            have hcat : y.1.size + 1 ≤ 9223372036854775807 := by rw [← hy]; omega
            have HY := Lib.hid hy
            clear hy hmax
            by_cases hv : y.2 = bang y.1
            · have hvb : (y.2.toList == (y.1 ++ { data := #[33] }).toList) = true := by rw [hv]; exact beq_self_eq_true _
              clear hv
              gi_wp2_with fail
              have h16 := HI7.out.set 0 (.int .i64 ((pre.length : Int) + 1))
              simp at h16
              refine ⟨kf_set _ _ _ _, kpz_set _ _ _ rfl, ?_, HB.out.setCell (p := ⟨wr.heap.size, 0, none⟩) (Nat.le_refl _) _⟩
              rw [List.length_append, show ((pre.length + [y].length : Nat) : Int) = (pre.length : Int) + 1 by simp]
              exact h16
            · have hvb : (y.2.toList == (y.1 ++ { data := #[33] }).toList) = false := toList_ne hv
              have HV := Lib.hid hv
              clear hv
              gi_wp2_with fail
              exact ⟨kf_set _ _ _ _, fun hp => by
                obtain ⟨_, h1, h2⟩ := pre_get hp
                exact HV.out (by rw [h2, h1])⟩
          · have hyb := toList_ne hy
            have HY := Lib.hid hy
            clear hy hmax
            gi_wp2_with fail
            exact ⟨kf_set _ _ _ _, fun hp => by
              obtain ⟨_, h1, _⟩ := pre_get hp
              exact HY.out h1.symm⟩
        case done =>
          rintro D ys W hD rfl ⟨i7, hBW⟩ hK
          rw [pairs_length] at i7
          have i2 := HR2.out.below hBW (by omega)
          have i4 := HCL.out.below hBW (by omega)
          have c2 : W.cell? ⟨w.heap.size, 0, none⟩ = some (.bool false) := i2.cell 0
          have g2 := i2.frozen 0
          have c4 : W.cell? ⟨w1.heap.size, 0, none⟩ = some (.slice Av L.length cv) := i4.cell 0
          have c7 : W.cell? ⟨wr.heap.size, 0, none⟩ = some (.int .i64 (L.length : Nat)) := i7.cell 0
          have g7 := i7.frozen 0
          have HI2 := Lib.hid i2
          have HBX := Lib.hid (bstep HBW.out hBW)
          have HK := Lib.hid hK
          clear i2 i4 i7 hBW hK hA hr hQl b7 bq bo
          go_wp2_with fail
          refine (known_any _).mono ?_
          rintro e W9 ⟨rfl, hb9⟩
          have hA9 := HI2.out.below hb9 HI2.out.lt
          have f2 : W9.cell? ⟨w.heap.size, 0, none⟩ = some (.bool false) := hA9.cell 0
          have ff2 := hA9.frozen 0
          have HA9 := Lib.hid hA9
          have HK9 := Lib.hid ((hb9.block _ (Array.getElem?_eq_some_iff.1 HK.out).1).trans HK.out)
          have HB9 := Lib.hid (bstep HBX.out hb9)
          clear hA9 hb9 c2 g2 c4 c7 g7
          go_wp2_with fail
          obtain ⟨g1, rf, hbf⟩ := leave1 HA9.out HK9.out HB9.out (Nat.le_refl _) (by omega)
          refine ⟨by simp, .inl ⟨_, _, rfl, run_takeDeferred g1, ?_⟩⟩
          exact ⟨.bool true, by simp [results, Try.results4, go_sem, rf], rfl, hbf⟩
        case stop =>
          rintro D c pre W hD hpre hx
          exact absurd hpre hx
    · obtain rfl : k = os.length := by omega
      have hT2 := HT.out
      rw [← foldT_all os [] 60 hk60] at hT2
      have HT := Lib.hid hT2
      have d1 : decide (((os.length : Nat) : Int) < ((os.length : Nat) : Int)) = false := by simp
      clear hT2
      have hshort := short_foldT os 60
      have hlf := length_foldT os [] 60
      simp only [List.length_nil] at hlf
      generalize foldT 60 os [] = L at *
      obtain ⟨g, m1, m2, hbb, hz, hvz, hB, hcL⟩ := HT.out
      obtain ⟨Av, gv, cv, rfl, hgv, hAv, hrv, -⟩ := hbb.rl.form2 hcL.lt
      have hr2 := HB2.out.below hB hw0
      have HQ := Lib.hid hbb.qu
      have HRW := Lib.hid hrv
      have HR2 := Lib.hid hr2
      have HCL := Lib.hid hcL
      have HBW := Lib.hid (HB1.out.trans (hB.mono hws))
      have HSH := Lib.hid hshort
      clear hbb hz hvz hB hcL hrv hr2 hshort
      go_wp2_with (go_at_call 18; refine (all_any _ _).mono ?_; rintro e w' ⟨rfl, rfl⟩)
      have hB3 : Below wr.heap.size wr (((wr.alloc (.cells #[.int .i64 0] 3)).alloc (.cells #[.pointer (some ⟨q, 0, none⟩)] 31)).alloc (.cells #[.func (.func 42) #[] #[]] 84)) := (((Below.refl wr.heap.size _).alloc (Nat.le_refl _) _).alloc (by simp) _).alloc (by simp; omega) _
      have b7 := ((At.new wr 3 #[.int .i64 0]).alloc (.cells #[.pointer (some ⟨q, 0, none⟩)] 31)).alloc (.cells #[.func (.func 42) #[] #[]] 84)
      have bq := (At.new (wr.alloc (.cells #[.int .i64 0] 3)) 31 #[.pointer (some ⟨q, 0, none⟩)]).alloc (.cells #[.func (.func 42) #[] #[]] 84)
      have bo := At.new ((wr.alloc (.cells #[.int .i64 0] 3)).alloc (.cells #[.pointer (some ⟨q, 0, none⟩)] 31)) 84 #[.func (.func 42) #[] #[]]
      have hsl : (((wr.alloc (.cells #[.int .i64 0] 3)).alloc (.cells #[.pointer (some ⟨q, 0, none⟩)] 31)).alloc (.cells #[.func (.func 42) #[] #[]] 84)).heap.size = wr.heap.size + 1 + 1 + 1 := by simp
      simp only [World.size_alloc] at bq bo
      generalize (((wr.alloc (.cells #[.int .i64 0] 3)).alloc (.cells #[.pointer (some ⟨q, 0, none⟩)] 31)).alloc (.cells #[.func (.func 42) #[] #[]] 84)) = wl at *
      have hQl := HQ.out.below (w' := wl) hB3
      have lr := HR2.out.lt
      have lc := HCL.out.lt
      obtain ⟨A, cap, hA, hr, hc⟩ := hQl.body
      refine (wpIn_wide (n := 5)).1 ?_
      refine wpIn_rangeFunc_ownH (w := wl) rfl (by omega) (gf := 57) (lb := #[.pointer (some ⟨wr.heap.size + 1, 0, none⟩), .pointer (some ⟨wr.heap.size + 1 + 1, 0, none⟩)]) rfl trivial (enters_of Try.func57 (by kernel_rfl) rfl)
        (all_stops 4 (by omega) (Zs (fun r => r = wr.heap.size)) 0 q g (wr.heap.size + 1) (wr.heap.size + 1 + 1) cap A L (.map (some m1)) (.map (some m2)) wl (still_zs _ _) (Nat.zero_le _) (bq.cell 0) (bo.cell 0) hA hr hQl.row (by omega) (fun r z => by have : r = wr.heap.size := z; omega) (fun z => by have : wr.heap.size + 1 + 1 = wr.heap.size := z; omega))
        kpz_t kpz_b (Below.refl _ _) (fun _ => rfl) (TextI wr.heap.size wr) (fun c pre W => ¬ pre <+: pairs L) (textI_own _ _ _ (by omega) (by omega)) (fun c => ownFrom_pure _ _)
        ⟨b7, hB3⟩
        (fun y a' W => a' = { tmps := #[.slice SA os.length sc, undef, .pointer (some ⟨w.heap.size, 0, none⟩), .pointer (some ⟨q, 0, none⟩), .pointer (some ⟨w1.heap.size, 0, none⟩), .int .i64 (os.length : Nat), u6, u7, u8, .pointer (some ⟨wr.heap.size, 0, none⟩), .string y.1, .string y.2, .bool true, .bool false, .pointer (some ⟨q, 0, none⟩), .int .i64 (os.length : Nat), .slice SA os.length sc, .int .i64 (os.length : Nat), .bool false, .bool false, undef, undef, .bool false, u23, u24, u25, u26, u27, u28, u29, u30, u31, u32, u33, u34, u35, u36, u37, u38, u39, u40, u41, u42, u43, u44, u45, u46, u47, u48, u49, u50, u51, u52, u53, u54, u55, u56, u57, u58, .pointer (some ⟨q, 0, none⟩), .func (.func 57) #[] #[.pointer (some ⟨wr.heap.size + 1, 0, none⟩), .pointer (some ⟨wr.heap.size + 1 + 1, 0, none⟩)], .string y.1, .string y.2, undef, undef, undef, undef, undef, undef, undef, undef, undef, undef, undef, undef, undef, undef, undef, undef, undef, undef, undef, undef, undef, undef, undef, undef, undef, undef, undef, undef], defers := [] }) (fun _ _ _ _ _ _ hs _ _ => hs) ?assign ?body ?done ?stop
      case assign =>
        intro lb pre x W K hi hK
        gi_wp2
        exact hK _ _ (KeepsFrom.refl _ _) (KpZ.refl _ _) hi rfl
      case body =>
        rintro lb pre y a' W hlb hrec ⟨i7, hBW⟩ rfl hlen
        obtain rfl := hAv (by omega)
        have i2 := HR2.out.below hBW (by omega)
        have i4 := HCL.out.below hBW (by omega)
        have c2 : W.cell? ⟨w.heap.size, 0, none⟩ = some (.bool false) := i2.cell 0
        have g2 := i2.frozen 0
        have c4 : W.cell? ⟨w1.heap.size, 0, none⟩ = some (.slice (some ⟨gv, 0, none⟩) L.length cv) := i4.cell 0
        have c7 : W.cell? ⟨wr.heap.size, 0, none⟩ = some (.int .i64 (pre.length : Nat)) := i7.cell 0
        have g7 := i7.frozen 0
        obtain ⟨r0, -, -, -⟩ := (HRW.out.below hBW hgv) pre.length hlen
        have d0 : (0 : Int) ≤ (pre.length : Int) := by omega
        have d1 : (pre.length : Int) < (L.length : Int) := by omega
        have hmax := HSH.out L[pre.length] (List.getElem_mem hlen)
        have HI7 := Lib.hid i7
        have HB := Lib.hid hBW
        clear i2 i4 i7 hBW hrec hA hr hQl b7 bq bo hAv
        by_cases hy : L[pre.length].id = y.1
        · have hyb : (L[pre.length].id.toList == y.1.toList) = true := by rw [hy]; simp
          have hcat : y.1.size + 1 ≤ 9223372036854775807 := by rw [← hy]; omega
          have HY := Lib.hid hy
          clear hy hmax
          by_cases hv : y.2 = bang y.1
          · have hvb : (y.2.toList == (y.1 ++ { data := #[33] }).toList) = true := by rw [hv]; exact beq_self_eq_true _
            clear hv
            gi_wp2_with fail
            have h16 := HI7.out.set 0 (.int .i64 ((pre.length : Int) + 1))
            simp at h16
            refine ⟨kf_set _ _ _ _, kpz_set _ _ _ rfl, ?_, HB.out.setCell (p := ⟨wr.heap.size, 0, none⟩) (Nat.le_refl _) _⟩
            rw [List.length_append, show ((pre.length + [y].length : Nat) : Int) = (pre.length : Int) + 1 by simp]
            exact h16
          · have hvb : (y.2.toList == (y.1 ++ { data := #[33] }).toList) = false := toList_ne hv
            have HV := Lib.hid hv
            clear hv
            gi_wp2_with fail
            exact ⟨kf_set _ _ _ _, fun hp => by
              obtain ⟨_, h1, h2⟩ := pre_get hp
              exact HV.out (by rw [h2, h1])⟩
        · have hyb := toList_ne hy
          have HY := Lib.hid hy
          clear hy hmax
          gi_wp2_with fail
          exact ⟨kf_set _ _ _ _, fun hp => by
            obtain ⟨_, h1, _⟩ := pre_get hp
            exact HY.out h1.symm⟩
      case done =>
        rintro D ys W hD rfl ⟨i7, hBW⟩ hK
        rw [pairs_length] at i7
        have i2 := HR2.out.below hBW (by omega)
        have i4 := HCL.out.below hBW (by omega)
        have c2 : W.cell? ⟨w.heap.size, 0, none⟩ = some (.bool false) := i2.cell 0
        have g2 := i2.frozen 0
        have c4 : W.cell? ⟨w1.heap.size, 0, none⟩ = some (.slice Av L.length cv) := i4.cell 0
        have c7 : W.cell? ⟨wr.heap.size, 0, none⟩ = some (.int .i64 (L.length : Nat)) := i7.cell 0
        have g7 := i7.frozen 0
        have HI2 := Lib.hid i2
        have HBX := Lib.hid (bstep HBW.out hBW)
        have HK := Lib.hid hK
        clear i2 i4 i7 hBW hK hA hr hQl b7 bq bo
        go_wp2_with fail
        refine (known_any _).mono ?_
        rintro e W9 ⟨rfl, hb9⟩
        have hA9 := HI2.out.below hb9 HI2.out.lt
        have f2 : W9.cell? ⟨w.heap.size, 0, none⟩ = some (.bool false) := hA9.cell 0
        have ff2 := hA9.frozen 0
        have HA9 := Lib.hid hA9
        have HK9 := Lib.hid ((hb9.block _ (Array.getElem?_eq_some_iff.1 HK.out).1).trans HK.out)
        have HB9 := Lib.hid (bstep HBX.out hb9)
        clear hA9 hb9 c2 g2 c4 c7 g7
        go_wp2_with fail
        obtain ⟨g1, rf, hbf⟩ := leave1 HA9.out HK9.out HB9.out (Nat.le_refl _) (by omega)
        refine ⟨by simp, .inl ⟨_, _, rfl, run_takeDeferred g1, ?_⟩⟩
        exact ⟨.bool true, by simp [results, Try.results4, go_sem, rf], rfl, hbf⟩
      case stop =>
        rintro D c pre W hD hpre hx
        exact absurd hpre hx
end Go.Proofs.Ytmimfhjmhlmibaa.T
namespace Go.Proofs.Ytmimfhjmhlmibaa
open Go.RowKit
theorem queueText_walk (S : Value) (os : List (Int × E)) (w : World) (h : OL w S os) (hsz : ∀ o ∈ os, o.2.id.size ≤ reachBytes) :
    Calls Try.prog 4 #[S] w fun e w' => e = .returned (.bool true) ∧ Below w.heap.size w w' := T.queueText_walk S os w h hsz
end Go.Proofs.Ytmimfhjmhlmibaa
