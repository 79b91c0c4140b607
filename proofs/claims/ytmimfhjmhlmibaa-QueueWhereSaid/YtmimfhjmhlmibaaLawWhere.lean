/- The walk of the law QueueWhere. -/
import Derived.Test.YtmimfhjmhlmibaaLawFifo
import Derived.Test.YtmimfhjmhlmibaaLawNil
import Derived.Test.YtmimfhjmhlmibaaPick
import Derived.Test.YtmimfhjmhlmibaaRound
import Derived.Sort.LoopGhostIn
import Derived.Sort.CutIn
namespace Go.Proofs.Ytmimfhjmhlmibaa
open Go.RowKit Go.MapKept Go.ChangeMaps Go.Shelf
set_option linter.unusedVariables false
attribute [local go_sem ↓] Go.wp_at_zero Go.wp_at_succ
attribute [local go_sem] Oper.semAt_some

/-- the way out of a function with three ranges -/
theorem leave3 {w W : World} {r D1 D2 D3 : Nat} {u : Value} (hr : At W r 4 #[u]) (h3 : W.heap[D3]? = some (.deferred (some []))) (h2 : W.heap[D2]? = some (.deferred (some []))) (h1 : W.heap[D1]? = some (.deferred (some [])))
    (n12 : D1 ≠ D2) (n13 : D1 ≠ D3) (n23 : D2 ≠ D3) (hb : Below w.heap.size w W) (br : w.heap.size ≤ r) (b1 : w.heap.size ≤ D1) (b2 : w.heap.size ≤ D2) (b3 : w.heap.size ≤ D3) :
    (W.setCell ⟨r, 0, none⟩ (.bool true)).heap[D3]? = some (.deferred (some [])) ∧ ((W.setCell ⟨r, 0, none⟩ (.bool true)).putObj D3 (.deferred none)).heap[D2]? = some (.deferred (some [])) ∧
    (((W.setCell ⟨r, 0, none⟩ (.bool true)).putObj D3 (.deferred none)).putObj D2 (.deferred none)).heap[D1]? = some (.deferred (some [])) ∧
    ((((W.setCell ⟨r, 0, none⟩ (.bool true)).putObj D3 (.deferred none)).putObj D2 (.deferred none)).putObj D1 (.deferred none)).cell? ⟨r, 0, none⟩ = some (.bool true) ∧
    Below w.heap.size w ((((W.setCell ⟨r, 0, none⟩ (.bool true)).putObj D3 (.deferred none)).putObj D2 (.deferred none)).putObj D1 (.deferred none)) := by
  have off : ∀ D : Nat, W.heap[D]? = some (Obj.deferred (some [])) → r ≠ D := fun D h e => by
    subst e
    rw [show W.heap[r]? = _ from hr] at h
    cases h
  have m1 := off D1 h1
  have m2 := off D2 h2
  have m3 := off D3 h3
  have st : ∀ D : Nat, W.heap[D]? = some (Obj.deferred (some [])) → (W.setCell ⟨r, 0, none⟩ (.bool true)).heap[D]? = some (Obj.deferred (some [])) := fun D h => (Below.heap_setCell W ⟨r, 0, none⟩ _ D (Ne.symm (off D h))).trans h
  have k3 := st D3 h3
  have k2 : ((W.setCell ⟨r, 0, none⟩ (.bool true)).putObj D3 (.deferred none)).heap[D2]? = some (.deferred (some [])) := (World.putObj_heap_other n23).trans (st D2 h2)
  have k1 : (((W.setCell ⟨r, 0, none⟩ (.bool true)).putObj D3 (.deferred none)).putObj D2 (.deferred none)).heap[D1]? = some (.deferred (some [])) := (World.putObj_heap_other n12).trans ((World.putObj_heap_other n13).trans (st D1 h1))
  have h5 := hr.set 0 (.bool true)
  simp at h5
  have h6 : At ((((W.setCell ⟨r, 0, none⟩ (.bool true)).putObj D3 (.deferred none)).putObj D2 (.deferred none)).putObj D1 (.deferred none)) r 4 #[.bool true] := (World.putObj_heap_other m1).trans ((World.putObj_heap_other m2).trans ((World.putObj_heap_other m3).trans h5))
  exact ⟨k3, k2, k1, h6.cell 0, (((hb.setCell (p := ⟨r, 0, none⟩) br _).trans (belowK_b (w := w) (Nat.le_refl _) _ D3 _ _ b3 k3 rfl rfl)).trans (belowK_b (w := w) (Nat.le_refl _) _ D2 _ _ b2 k2 rfl rfl)).trans (belowK_b (w := w) (Nat.le_refl _) _ D1 _ _ b1 k1 rfl rfl)⟩

/-- what holds between two rounds of QueueWhere's first range -/
def WhereI (B : Nat) (wb : World) (l : List E) (pre : List (ByteArray × Int)) (W : World) : Prop := ∃ n : Nat,
  ((n ≤ l.length ∧ (pre <+: pairs (l.filter oddP) → SyncO l n pre.length)) ∧ At W B 3 #[.int .i64 (n : Nat)]) ∧ Below B wb W
theorem whereI_own (B : Nat) (wb : World) (l : List E) (n : Nat) (hn : B ≤ n) (hB : B ≤ wb.heap.size) : OwnFrom n (WhereI B wb l) :=
  ownFrom_ex fun c => ((ownFrom_pure n _).and (ownFrom_at n _ _ (fun _ => #[.int .i64 (c : Nat)]))).and (ownFrom_low hn hB)
/-- what holds where its last range is left -/
def BreakI (B : Nat) (wb : World) (D1 D2 : Nat) (m : Nat) (c : Code) (pre : List (ByteArray × Int)) (W : World) : Prop :=
  ((((c = Code.exit 8 ∧ pre.length = m + 1) ∧ At W B 3 #[.int .i64 (pre.length : Nat)]) ∧ W.heap[D1]? = some (.deferred (some []))) ∧ W.heap[D2]? = some (.deferred (some []))) ∧ Below B wb W
theorem breakI_own (B : Nat) (wb : World) (D1 D2 m : Nat) (c : Code) (n : Nat) (hn : B ≤ n) (hB : B ≤ wb.heap.size) (h1 : D1 < n) (h2 : D2 < n) : OwnFrom n (BreakI B wb D1 D2 m c) :=
  ((((ownFrom_pure n _).and (ownFrom_at n _ _ (fun pre : List (ByteArray × Int) => #[.int .i64 (pre.length : Nat)]))).and (ownFrom_obj _ h1)).and (ownFrom_obj _ h2)).and (ownFrom_low hn hB)
/-- what holds between two rounds of its last range -/
def CountI (B : Nat) (wb : World) (D1 D2 : Nat) (m : Nat) (pre : List (ByteArray × Int)) (W : World) : Prop :=
  (((pre.length ≤ m ∧ At W B 3 #[.int .i64 (pre.length : Nat)]) ∧ W.heap[D1]? = some (.deferred (some []))) ∧ W.heap[D2]? = some (.deferred (some []))) ∧ Below B wb W
theorem countI_own (B : Nat) (wb : World) (D1 D2 m : Nat) (n : Nat) (hn : B ≤ n) (hB : B ≤ wb.heap.size) (h1 : D1 < n) (h2 : D2 < n) : OwnFrom n (CountI B wb D1 D2 m) :=
  ((((ownFrom_pure n _).and (ownFrom_at n _ _ (fun pre : List (ByteArray × Int) => #[.int .i64 (pre.length : Nat)]))).and (ownFrom_obj _ h1)).and (ownFrom_obj _ h2)).and (ownFrom_low hn hB)
theorem tmod_even {v : Int} (h : v % 2 = 0) : v.tmod 2 = 0 := Int.dvd_iff_tmod_eq_zero.1 (Int.dvd_iff_emod_eq_zero.2 h)
theorem tmod_odd {v : Int} (h : ¬ v % 2 = 0) : ¬ v.tmod 2 = 0 := fun e => h (Int.dvd_iff_emod_eq_zero.1 (Int.dvd_iff_tmod_eq_zero.2 e))

set_option maxRecDepth 100000 in
set_option maxHeartbeats 16000000 in
theorem queueWhere_walk (S : Value) (os : List (Int × E)) (a : Int) (ha0 : 0 ≤ a) (ha1 : a ≤ 255) (w : World) (h : OL w S os) :
    Calls Try.prog 5 #[S, .int .u8 a] w fun e w' => e = .returned (.bool true) ∧ Below w.heap.size w w' := by
  have H := Lib.hid h
  obtain ⟨SA, sn, sc, rfl⟩ : ∃ A n c, S = .slice A n c := by
    rcases h with ⟨A, cap, rfl, _⟩ | ⟨b, off, cap, rfl, _⟩
    · exact ⟨_, _, _, rfl⟩
    · exact ⟨_, _, _, rfl⟩
  clear h
  have hB0 : Below w.heap.size w ((w.alloc (.cells #[.int .u8 a] 5)).alloc (.cells #[.bool false] 4)) := ((Below.refl _ _).alloc (Nat.le_refl _) _).alloc (by simp) _
  have a3 := (At.new w 5 #[.int .u8 a]).alloc (.cells #[.bool false] 4)
  have a4 := At.new (w.alloc (.cells #[.int .u8 a] 5)) 4 #[.bool false]
  rw [World.size_alloc] at a4
  refine (callsIn_wide (n := 5)).1 (callsIn_of_wp_marks Try.func5 rfl trivial ?_ rfl)
  simp only [Try.ntmps5, List.size_toArray, List.length_cons, List.length_nil, Nat.reduceAdd, Nat.reduceSub, Array.replicate_succ, Array.replicate_zero, List.push_toArray, List.append_toArray, List.nil_append, List.cons_append]
  refine wpIn_wide.2 ?_
  go_wp2_with fail
  refine (known_any _).mono ?_
  rintro e w0 ⟨rfl, hb0⟩
  have hB1 := bstep hB0 hb0
  have b3 := a3.below hb0 a3.lt
  have b4 := a4.below hb0 a4.lt
  clear a3 a4 hB0 hb0
  go_wp2_with fail
  refine (build_any _ os w0 (H.out.below hB1)).mono ?_
  rintro e w1 ⟨q, v, rfl, hbo⟩
  obtain ⟨g, m1, m2, ⟨hq, hrl, hoff⟩, hz, hv, hb1, hs1⟩ := hbo
  have hB2 := bstep hB1 hb1
  have c3 := b3.below hb1 b3.lt
  have c4 := b4.below hb1 b4.lt
  have hlf := length_foldP os [] 60
  simp only [List.length_nil] at hlf
  generalize foldP 60 os [] = L at *
  have hw0 := b4.lt
  obtain ⟨Av, gv, cv, rfl, hgv, hAv, hrv, -⟩ := hrl.form2 hq.qlt
  have hbl : Below w1.heap.size w1 (w1.alloc (.cells #[.slice Av L.length cv] 33)) := (Below.refl _ _).alloc (Nat.le_refl _) _
  have hbsz : (w1.alloc (.cells #[.slice Av L.length cv] 33)).heap.size = w1.heap.size + 1 := by simp
  have hwlt := hB2.size
  -- what stands in the base world wb
  have HQ := Lib.hid (hq.below hbl)
  have HRW := Lib.hid (hrv.below hbl hgv)
  have HC3 := Lib.hid (c3.below hbl c3.lt)
  have HC4 := Lib.hid (c4.below hbl c4.lt)
  have HC6 := Lib.hid (At.new w1 33 #[.slice Av L.length cv])
  have HB2 := Lib.hid (bstep hB2 hbl)
  have l3 := c3.lt
  have l4 := c4.lt
  clear b3 b4 hB1 hb1 c3 c4 hB2 hq hrl hoff hrv hbl
  go_wp2_with (go_at_call 20; refine (where_any _ _ _).mono ?_; rintro e w' ⟨rfl, rfl⟩)
  generalize w1.alloc (.cells #[.slice Av L.length cv] 33) = wb at *
  have hB3 : Below (w1.heap.size + 1) wb (((wb.alloc (.cells #[.int .i64 0] 3)).alloc (.cells #[.pointer (some ⟨q, 0, none⟩)] 44)).alloc (.cells #[.func (.func 21) #[] #[]] 50)) := hbsz ▸ (((Below.refl wb.heap.size _).alloc (Nat.le_refl _) _).alloc (by simp) _).alloc (by simp; omega) _
  have b7 := ((At.new wb 3 #[.int .i64 0]).alloc (.cells #[.pointer (some ⟨q, 0, none⟩)] 44)).alloc (.cells #[.func (.func 21) #[] #[]] 50)
  have bq := (At.new (wb.alloc (.cells #[.int .i64 0] 3)) 44 #[.pointer (some ⟨q, 0, none⟩)]).alloc (.cells #[.func (.func 21) #[] #[]] 50)
  have bo := At.new ((wb.alloc (.cells #[.int .i64 0] 3)).alloc (.cells #[.pointer (some ⟨q, 0, none⟩)] 44)) 50 #[.func (.func 21) #[] #[]]
  have hsl : (((wb.alloc (.cells #[.int .i64 0] 3)).alloc (.cells #[.pointer (some ⟨q, 0, none⟩)] 44)).alloc (.cells #[.func (.func 21) #[] #[]] 50)).heap.size = w1.heap.size + 1 + 1 + 1 + 1 := by simp [hbsz]
  simp only [World.size_alloc, hbsz] at b7 bq bo
  generalize (((wb.alloc (.cells #[.int .i64 0] 3)).alloc (.cells #[.pointer (some ⟨q, 0, none⟩)] 44)).alloc (.cells #[.func (.func 21) #[] #[]] 50)) = wl at *
  have hQl := HQ.out.below (w' := wl) (hbsz ▸ hB3)
  obtain ⟨A, cap, hA, hr, hc⟩ := hQl.body
  refine (wpIn_wide (n := 5)).1 ?_
  refine wpIn_rangeFunc_ownH (w := wl) rfl (by omega) (gf := 43) (lb := #[.pointer (some ⟨w1.heap.size + 1 + 1, 0, none⟩), .pointer (some ⟨w1.heap.size + 1 + 1 + 1, 0, none⟩)]) rfl trivial (enters_of Try.func43 (by kernel_rfl) rfl)
    (odd_stops 4 (by omega) (Zs (fun r => r = w1.heap.size + 1)) 0 q g (w1.heap.size + 1 + 1) (w1.heap.size + 1 + 1 + 1) cap A L (.map (some m1)) (.map (some m2)) wl (still_zs _ _) (Nat.zero_le _) (bq.cell 0) (bo.cell 0) hA hr hQl.row (by omega) (fun r z => by have : r = w1.heap.size + 1 := z; omega) (fun z => by have : w1.heap.size + 1 + 1 + 1 = w1.heap.size + 1 := z; omega))
    kpz_t kpz_b (Below.refl _ _) (fun _ => rfl) (WhereI (w1.heap.size + 1) wb L) (fun c pre W => ¬ pre <+: pairs (L.filter oddP)) (whereI_own _ _ _ _ (by omega) (by omega)) (fun c => ownFrom_pure _ _)
    ⟨0, ⟨⟨Nat.zero_le _, fun _ => rfl⟩, b7⟩, hB3⟩
    (fun y a' W => a' = { tmps := #[.slice SA sn sc, .int .u8 a, undef, .pointer (some ⟨w.heap.size, 0, none⟩), .pointer (some ⟨w.heap.size + 1, 0, none⟩), .pointer (some ⟨q, 0, none⟩), .pointer (some ⟨w1.heap.size, 0, none⟩), .pointer (some ⟨w1.heap.size + 1, 0, none⟩), .string y.1, .int .i64 y.2, .bool true, .bool false, .tuple #[.pointer (some ⟨q, 0, none⟩), .slice Av L.length cv], .slice SA sn sc, .tuple #[.pointer (some ⟨q, 0, none⟩), .slice Av L.length cv], .pointer (some ⟨q, 0, none⟩), .slice Av L.length cv, .pointer (some ⟨q, 0, none⟩), .bool false, .pointer (some ⟨q, 0, none⟩), .func (.func 43) #[] #[.pointer (some ⟨w1.heap.size + 1 + 1, 0, none⟩), .pointer (some ⟨w1.heap.size + 1 + 1 + 1, 0, none⟩)], .string y.1, .int .i64 y.2, undef, undef, undef, undef, undef, undef, undef, undef, undef, undef, undef, undef, undef, undef, undef, undef, undef, undef, undef, undef, undef, undef, undef, undef, undef, undef, undef, undef, undef, undef, undef, undef, undef, undef, undef, undef, undef, undef, undef, undef, undef, undef, undef, undef, undef, undef, undef, undef, undef, undef, undef, undef, undef, undef, undef, undef, undef, undef, undef, undef, undef, undef, undef, undef, undef, undef, undef, undef, undef, undef, undef, undef, undef, undef, undef, undef, undef, undef, undef], defers := [] }) (fun _ _ _ _ _ _ hs _ _ => hs) ?assign ?body ?done ?stop
  case assign =>
    intro lb pre x W K hi hK
    gi_wp2
    exact hK _ _ (KeepsFrom.refl _ _) (KpZ.refl _ _) hi rfl
  case body =>
    rintro lb pre y a' W hlb hrec ⟨n, ⟨⟨hn, hs⟩, i7⟩, hBW⟩ rfl hlen
    have HS := Lib.hid hs
    have HI7 := Lib.hid i7
    have HBW := Lib.hid hBW
    clear hs i7 hBW hrec hA hr hQl b7 bq bo
    gi_wp2_with fail
    gi_loopg [36] (L.length - n) (fun k _ wr => ∃ m : Nat, k = L.length - m ∧ m ≤ L.length ∧ Hid (pre <+: pairs (L.filter oddP) → SyncO L m pre.length) ∧ At wr (w1.heap.size + 1) 3 #[.int .i64 (m : Nat)] ∧ Below (w1.heap.size + 1) wb wr ∧ (∀ C, KeepsFrom C W wr) ∧ KpZ (Zs (fun r => r = w1.heap.size + 1)) W wr)
    case atStart => exact ⟨n, rfl, hn, HS, HI7.out, HBW.out, fun C => KeepsFrom.refl _ _, KpZ.refl _ _⟩
    case round =>
      obtain ⟨m, hk, hm, hsy, j7, hBr, hkf, hkz⟩ := hrel
      have HR := Lib.hid (HRW.out.below hBr (by omega))
      have i4 := HC4.out.below hBr (by omega)
      have i6 := HC6.out.below hBr (by omega)
      have c4 : wr.cell? ⟨w.heap.size + 1, 0, none⟩ = some (.bool false) := i4.cell 0
      have g4 := i4.frozen 0
      have c6 : wr.cell? ⟨w1.heap.size, 0, none⟩ = some (.slice Av L.length cv) := i6.cell 0
      have c7 : wr.cell? ⟨w1.heap.size + 1, 0, none⟩ = some (.int .i64 (m : Nat)) := j7.cell 0
      have g7 := j7.frozen 0
      clear i4 i6
      have HK := Lib.hid hk
      have J7 := Lib.hid j7
      have HBR := Lib.hid hBr
      clear hk j7 hBr
      have d0 : (0 : Int) ≤ (m : Int) := by omega
      by_cases hlt : m < L.length
      · have d1 : (m : Int) < (L.length : Int) := by omega
        obtain rfl := hAv (by omega)
        obtain ⟨r0, -, -, r3⟩ := HR.out m hlt
        clear hAv
        by_cases hod : L[m].v % 2 = 0
        · have e1 : (L[m].v.tmod 2 == 0) = true := by rw [tmod_even hod]; rfl
          have e2 : decide (L[m].v.tmod 2 = 0) = true := decide_eq_true (tmod_even hod)
          have ho : Hid (oddP L[m] = false) := Lib.hid (by unfold oddP; rw [hod]; rfl)
          clear hod
          gi_wp2_with fail
          gi_roundg (L.length - (m + 1))
          case measure => have := HK.out; omega
          case rel =>
            have h16 := J7.out.set 0 (.int .i64 ((m : Int) + 1))
            simp at h16
            exact ⟨m + 1, rfl, hlt, Lib.hid (fun hp => synco_even (hsy.out hp) hlt ho.out), by rw [show ((m + 1 : Nat) : Int) = (m : Int) + 1 by omega]; exact h16, HBR.out.setCell (p := ⟨w1.heap.size + 1, 0, none⟩) (Nat.le_refl _) _, fun C => (hkf C).trans (kf_set _ _ _ _), hkz.trans (kpz_set _ _ _ rfl)⟩
        · have e1 : (L[m].v.tmod 2 == 0) = false := beq_eq_false_iff_ne.2 (tmod_odd hod)
          have e2 : decide (L[m].v.tmod 2 = 0) = false := decide_eq_false (tmod_odd hod)
          have ho : Hid (oddP L[m] = true) := Lib.hid (by unfold oddP; simpa using hod)
          clear hod
          by_cases hy : L[m].id = y.1
          · have hyb : (L[m].id.toList == y.1.toList) = true := by rw [hy]; simp
            have HY := Lib.hid hy
            clear hy
            by_cases hy2 : L[m].v = y.2
            · have hvb : (L[m].v == y.2) = true := beq_iff_eq.2 hy2
              have hvb2 : decide (L[m].v = y.2) = true := decide_eq_true hy2
              have hvb3 : (L[m].v != y.2) = false := by rw [bne, hvb]; rfl
              have HY2 := Lib.hid hy2
              clear hy2
              gi_wp2_with fail
              have h16 := J7.out.set 0 (.int .i64 ((m : Int) + 1))
              simp at h16
              exact ⟨(hkf _).trans (kf_set _ _ _ _), hkz.trans (kpz_set _ _ _ rfl), m + 1, ⟨⟨hlt, fun hp => by
                obtain ⟨_, _, _, h4⟩ := synco_step (hsy.out ((List.prefix_append _ _).trans hp)) hm (fun _ => ho.out) hp
                exact h4⟩, by rw [show ((m + 1 : Nat) : Int) = (m : Int) + 1 by omega]; exact h16⟩, HBR.out.setCell (p := ⟨w1.heap.size + 1, 0, none⟩) (Nat.le_refl _) _⟩
            · have hvb : (L[m].v == y.2) = false := beq_eq_false_iff_ne.2 hy2
              have hvb2 : decide (L[m].v = y.2) = false := decide_eq_false hy2
              have hvb3 : (L[m].v != y.2) = true := by rw [bne, hvb]; rfl
              have HY2 := Lib.hid hy2
              clear hy2
              gi_wp2_with fail
              exact ⟨(hkf _).trans (kf_set _ _ _ _), fun hp => by
                obtain ⟨_, _, h3, _⟩ := synco_step (hsy.out ((List.prefix_append _ _).trans hp)) hm (fun _ => ho.out) hp
                exact HY2.out h3⟩
          · have hyb := toList_ne hy
            have HY := Lib.hid hy
            clear hy
            gi_wp2_with fail
            exact ⟨(hkf _).trans (kf_set _ _ _ _), fun hp => by
              obtain ⟨_, h2, _, _⟩ := synco_step (hsy.out ((List.prefix_append _ _).trans hp)) hm (fun _ => ho.out) hp
              exact HY.out h2⟩
      · have d1 : ¬ (m : Int) < (L.length : Int) := by omega
        gi_wp2_with fail
        exact ⟨(hkf _).trans (kf_set _ _ _ _), fun hp => by
          obtain ⟨h1, _, _, _⟩ := synco_step (hsy.out ((List.prefix_append _ _).trans hp)) hm (fun h => absurd h hlt) hp
          exact hlt h1⟩
  case done =>
    rintro D ys W hD rfl ⟨n, ⟨⟨hn, hs⟩, i7⟩, hBW⟩ hK
    have hsy : Hid (SyncO L n (L.filter oddP).length) := Lib.hid (by have := hs (List.prefix_refl _); rwa [pairs_length] at this)
    have HI7 := Lib.hid i7
    have HBW := Lib.hid hBW
    have HK := Lib.hid hK
    clear hs i7 hBW hK hA hr hQl b7 bq bo
    go_wp2_with fail
    go_loopg [66] (L.length - n) (fun k _ wr => ∃ m : Nat, k = L.length - m ∧ (n ≤ m ∧ m ≤ L.length) ∧ At wr (w1.heap.size + 1) 3 #[.int .i64 (m : Nat)] ∧ Below (w1.heap.size + 1) wb wr ∧ wr.heap[D]? = some (.deferred (some [])))
    case atStart => exact ⟨n, rfl, ⟨Nat.le_refl _, hn⟩, HI7.out, HBW.out, HK.out⟩
    case round =>
      obtain ⟨m, hk, ⟨hnm, hm⟩, j7, hBr, hKr⟩ := hrel
      have HR := Lib.hid (HRW.out.below hBr (by omega))
      have i4 := HC4.out.below hBr (by omega)
      have i6 := HC6.out.below hBr (by omega)
      have c4 : wr.cell? ⟨w.heap.size + 1, 0, none⟩ = some (.bool false) := i4.cell 0
      have g4 := i4.frozen 0
      have c6 : wr.cell? ⟨w1.heap.size, 0, none⟩ = some (.slice Av L.length cv) := i6.cell 0
      have c7 : wr.cell? ⟨w1.heap.size + 1, 0, none⟩ = some (.int .i64 (m : Nat)) := j7.cell 0
      have g7 := j7.frozen 0
      clear i4 i6
      have HM := Lib.hid hk
      have J7 := Lib.hid j7
      have HBR := Lib.hid hBr
      have HKR := Lib.hid hKr
      clear hk j7 hBr hKr
      have d0 : (0 : Int) ≤ (m : Int) := by omega
      by_cases hlt : m < L.length
      · have d1 : (m : Int) < (L.length : Int) := by omega
        obtain rfl := hAv (by omega)
        obtain ⟨-, -, -, r3⟩ := HR.out m hlt
        clear hAv
        have hev : L[m].v % 2 = 0 := by
          have := synco_end hsy.out m hnm hlt
          unfold oddP at this
          simpa using this
        have e1 : (L[m].v.tmod 2 == 0) = true := by rw [tmod_even hev]; rfl
        have e2 : decide (L[m].v.tmod 2 = 0) = true := decide_eq_true (tmod_even hev)
        have e3 : (L[m].v.tmod 2 != 0) = false := by rw [tmod_even hev]; rfl
        clear hev
        go_wp2_with fail
        go_roundg (L.length - (m + 1))
        case measure => have := HM.out; omega
        case rel =>
          have h16 := J7.out.set 0 (.int .i64 ((m : Int) + 1))
          simp at h16
          exact ⟨m + 1, rfl, ⟨by omega, hlt⟩, by rw [show ((m + 1 : Nat) : Int) = (m : Int) + 1 by omega]; exact h16, HBR.out.setCell (p := ⟨w1.heap.size + 1, 0, none⟩) (Nat.le_refl _) _, (Below.heap_setCell wr ⟨w1.heap.size + 1, 0, none⟩ _ D (by show D ≠ w1.heap.size + 1; omega)).trans HKR.out⟩
      · have d1 : ¬ (m : Int) < (L.length : Int) := by omega
        go_wp2_with (go_at_call 20; refine (where_nil _ _).mono ?_; rintro e w' ⟨rfl, rfl⟩)
        clear c4 g4 c6 c7 g7
        have hb6 : Below wr.heap.size wr ((wr.alloc (.cells #[.pointer (some ⟨q, 0, none⟩)] 44)).alloc (.cells #[.nilFunc] 50)) := ((Below.refl wr.heap.size _).alloc (Nat.le_refl _) _).alloc (by simp) _
        have q6 := (At.new wr 44 #[.pointer (some ⟨q, 0, none⟩)]).alloc (.cells #[.nilFunc] 50)
        have o6 := At.new (wr.alloc (.cells #[.pointer (some ⟨q, 0, none⟩)] 44)) 50 #[.nilFunc]
        rw [World.size_alloc] at o6
        have hrs := HBR.out.size
        have hDl := (Array.getElem?_eq_some_iff.1 HKR.out).1
        have HK6 := Lib.hid ((hb6.block _ hDl).trans HKR.out)
        have HJ6 := Lib.hid (J7.out.below hb6 J7.out.lt)
        have HB6 := Lib.hid (HBR.out.trans (hb6.mono (by omega)))
        have hs6 := hb6.size
        generalize ((wr.alloc (.cells #[.pointer (some ⟨q, 0, none⟩)] 44)).alloc (.cells #[.nilFunc] 50)) = W6 at *
        refine (wpIn_wide (n := 5)).1 ?_
        refine wpIn_rangeFunc_ownH (w := W6) rfl (by omega) (gf := 43) (lb := #[.pointer (some ⟨wr.heap.size, 0, none⟩), .pointer (some ⟨wr.heap.size + 1, 0, none⟩)]) rfl trivial (enters_of Try.func43 (by kernel_rfl) rfl)
          (bare_stops 4 (KpZ (Zs (fun _ => False))) q wr.heap.size (wr.heap.size + 1) W6 (q6.cell 0) (o6.cell 0)) kpz_t kpz_b (Below.refl _ _) (fun _ => rfl)
          (fun _ W => (At W (w1.heap.size + 1) 3 #[.int .i64 (m : Nat)] ∧ W.heap[D]? = some (.deferred (some []))) ∧ Below (w1.heap.size + 1) wb W) (fun _ _ _ => False) (((ownFrom_at _ _ _ (fun _ => #[.int .i64 (m : Nat)])).and (ownFrom_obj _ (by omega))).and (ownFrom_low (by omega) (by omega))) (fun _ _ _ _ _ h _ _ => h) ⟨⟨HJ6.out, HK6.out⟩, HB6.out⟩ (fun _ _ _ => True) (fun _ _ _ _ _ _ h _ _ => h) ?assign2 ?body2 ?done2 ?stop2
        case assign2 =>
          intro lb pre x W K hi hK
          gi_wp2
          exact hK _ _ (KeepsFrom.refl _ _) (KpZ.refl _ _) hi trivial
        case body2 =>
          intro lb pre x a' W _ _ _ _ hlen
          exact absurd hlen (Nat.not_lt_zero _)
        case stop2 =>
          intro D c pre W _ h
          exact h.elim
        case done2 =>
          rintro D2 ys W7 hD2 rfl ⟨⟨j7, hK7⟩, hB7⟩ hL7
          have l7 := j7.lt
          have c7 : W7.cell? ⟨w1.heap.size + 1, 0, none⟩ = some (.int .i64 (m : Nat)) := j7.cell 0
          have g7 := j7.frozen 0
          have J7 := Lib.hid j7
          have HK7 := Lib.hid hK7
          have HL7 := Lib.hid hL7
          have HB7 := Lib.hid hB7
          clear j7 hK7 hL7 hB7 q6 o6 HK6 HJ6 HB6 HBR HKR HI7 HBW HK
          go_wp2_with (go_at_call 22; refine (all_any _ _).mono ?_; rintro e w' ⟨rfl, rfl⟩)
          have hst7 : Below (w1.heap.size + 1) wb (W7.setCell ⟨w1.heap.size + 1, 0, none⟩ (.int .i64 0)) := HB7.out.setCell (p := ⟨w1.heap.size + 1, 0, none⟩) (Nat.le_refl _) _
          have hsz7 : (W7.setCell ⟨w1.heap.size + 1, 0, none⟩ (.int .i64 0)).heap.size = W7.heap.size := World.size_setCell ..
          have hsw7 := HB7.out.size
          have hD7 := (Array.getElem?_eq_some_iff.1 HK7.out).1
          have hE7 := (Array.getElem?_eq_some_iff.1 HL7.out).1
          have hK8 : (W7.setCell ⟨w1.heap.size + 1, 0, none⟩ (.int .i64 0)).heap[D]? = some (.deferred (some [])) := (Below.heap_setCell W7 ⟨w1.heap.size + 1, 0, none⟩ _ D (by show D ≠ w1.heap.size + 1; omega)).trans HK7.out
          have hL8 : (W7.setCell ⟨w1.heap.size + 1, 0, none⟩ (.int .i64 0)).heap[D2]? = some (.deferred (some [])) := (Below.heap_setCell W7 ⟨w1.heap.size + 1, 0, none⟩ _ D2 (by show D2 ≠ w1.heap.size + 1; omega)).trans HL7.out
          have j8 := J7.out.set 0 (.int .i64 0)
          simp at j8
          have hb8 : Below W7.heap.size (W7.setCell ⟨w1.heap.size + 1, 0, none⟩ (.int .i64 0)) (((W7.setCell ⟨w1.heap.size + 1, 0, none⟩ (.int .i64 0)).alloc (.cells #[.pointer (some ⟨q, 0, none⟩)] 44)).alloc (.cells #[.func (.func 45) #[] #[]] 50)) := hsz7 ▸ ((Below.refl (W7.setCell ⟨w1.heap.size + 1, 0, none⟩ (.int .i64 0)).heap.size _).alloc (Nat.le_refl _) _).alloc (by simp) _
          have q8 := (At.new (W7.setCell ⟨w1.heap.size + 1, 0, none⟩ (.int .i64 0)) 44 #[.pointer (some ⟨q, 0, none⟩)]).alloc (.cells #[.func (.func 45) #[] #[]] 50)
          have o8 := At.new ((W7.setCell ⟨w1.heap.size + 1, 0, none⟩ (.int .i64 0)).alloc (.cells #[.pointer (some ⟨q, 0, none⟩)] 44)) 50 #[.func (.func 45) #[] #[]]
          rw [World.size_alloc, hsz7] at o8
          rw [hsz7] at q8
          have J9 := Lib.hid (j8.below hb8 (by omega))
          have HB9 := Lib.hid (hst7.trans (hb8.mono (by omega)))
          have HK9 := Lib.hid ((hb8.block D (by omega)).trans hK8)
          have HL9 := Lib.hid ((hb8.block D2 (by omega)).trans hL8)
          have hs8 := hb8.size
          rw [hsz7] at hs8
          clear hst7 hK8 hL8 j8 hb8 J7 HK7 HL7 HB7 c7 g7
          generalize (((W7.setCell ⟨w1.heap.size + 1, 0, none⟩ (.int .i64 0)).alloc (.cells #[.pointer (some ⟨q, 0, none⟩)] 44)).alloc (.cells #[.func (.func 45) #[] #[]] 50)) = W8 at *
          have hQ8 := HQ.out.below (w' := W8) (hbsz ▸ HB9.out)
          obtain ⟨A, cap, hA, hr, hc⟩ := hQ8.body
          obtain ⟨t, ht⟩ : ∃ t : Nat, a.tmod 10 = (t : Int) := ⟨(a.tmod 10).toNat, by have := Int.tmod_nonneg 10 ha0; omega⟩
          have ht9 : t ≤ 9 := by have := Int.tmod_lt_of_pos a (show (0 : Int) < 10 by omega); omega
          refine (wpIn_wide (n := 5)).1 ?_
          refine wpIn_rangeFunc_ownH (w := W8) rfl (by omega) (gf := 43) (lb := #[.pointer (some ⟨W7.heap.size, 0, none⟩), .pointer (some ⟨W7.heap.size + 1, 0, none⟩)]) rfl trivial (enters_of Try.func43 (by kernel_rfl) rfl)
            (all_stops 4 (by omega) (Zs (fun r => r = w1.heap.size + 1)) 0 q g W7.heap.size (W7.heap.size + 1) cap A L (.map (some m1)) (.map (some m2)) W8 (still_zs _ _) (Nat.zero_le _) (q8.cell 0) (o8.cell 0) hA hr hQ8.row (by omega) (fun r z => by have : r = w1.heap.size + 1 := z; omega) (fun z => by have : W7.heap.size + 1 = w1.heap.size + 1 := z; omega))
            kpz_t kpz_b (Below.refl _ _) (fun _ => rfl) (CountI (w1.heap.size + 1) wb D D2 t) (BreakI (w1.heap.size + 1) wb D D2 t) (countI_own _ _ _ _ _ _ (by omega) (by omega) (by omega) (by omega)) (fun c => breakI_own _ _ _ _ _ _ _ (by omega) (by omega) (by omega) (by omega))
            ⟨⟨⟨⟨Nat.zero_le _, J9.out⟩, HK9.out⟩, HL9.out⟩, HB9.out⟩
            (fun y a' W => a' = { tmps := #[.slice SA sn sc, .int .u8 a, undef, .pointer (some ⟨w.heap.size, 0, none⟩), .pointer (some ⟨w.heap.size + 1, 0, none⟩), .pointer (some ⟨q, 0, none⟩), .pointer (some ⟨w1.heap.size, 0, none⟩), .pointer (some ⟨w1.heap.size + 1, 0, none⟩), undef, undef, .bool true, .bool false, .tuple #[.pointer (some ⟨q, 0, none⟩), .slice Av L.length cv], .slice SA sn sc, .tuple #[.pointer (some ⟨q, 0, none⟩), .slice Av L.length cv], .pointer (some ⟨q, 0, none⟩), .slice Av L.length cv, .pointer (some ⟨q, 0, none⟩), .bool false, .pointer (some ⟨q, 0, none⟩), .func (.func 43) #[] #[.pointer (some ⟨w1.heap.size + 1 + 1, 0, none⟩), .pointer (some ⟨w1.heap.size + 1 + 1 + 1, 0, none⟩)], undef, undef, undef, undef, undef, undef, undef, undef, undef, undef, undef, undef, undef, undef, undef, undef, undef, undef, undef, undef, undef, undef, undef, undef, undef, undef, undef, undef, undef, undef, undef, undef, undef, undef, undef, undef, undef, undef, undef, undef, undef, .int .i64 (m : Nat), .slice Av L.length cv, .int .i64 (L.length : Nat), .bool false, u66, u67, u68, u69, u70, u71, u72, u73, u74, .pointer (some ⟨q, 0, none⟩), .func (.func 43) #[] #[.pointer (some ⟨wr.heap.size, 0, none⟩), .pointer (some ⟨wr.heap.size + 1, 0, none⟩)], undef, undef, .pointer (some ⟨q, 0, none⟩), .func (.func 43) #[] #[.pointer (some ⟨W7.heap.size, 0, none⟩), .pointer (some ⟨W7.heap.size + 1, 0, none⟩)], .string y.1, .int .i64 y.2, undef, undef, undef, undef, undef, undef, undef, undef, undef, undef, undef, undef, undef, undef, undef, undef, undef, undef, undef], defers := [] }) (fun _ _ _ _ _ _ hs _ _ => hs) ?assign3 ?body3 ?done3 ?stop3
          case assign3 =>
            intro lb pre x W K hi hK
            gi_wp2
            exact hK _ _ (KeepsFrom.refl _ _) (KpZ.refl _ _) hi rfl
          case body3 =>
            rintro lb pre y a' W hlb hrec ⟨⟨⟨⟨hle, i7⟩, hKW⟩, hLW⟩, hBW⟩ rfl hlen
            have i3 := HC3.out.below hBW (by omega)
            have c7 : W.cell? ⟨w1.heap.size + 1, 0, none⟩ = some (.int .i64 (pre.length : Nat)) := i7.cell 0
            have g7 := i7.frozen 0
            have hk2 : Keep (· = w1.heap.size + 1) W (W.setCell ⟨w1.heap.size + 1, 0, none⟩ (.int .i64 ((pre.length : Int) + 1))) := Keep.setCell (Z := (· = w1.heap.size + 1)) (p := ⟨w1.heap.size + 1, 0, none⟩) rfl _ W
            have e3 : (W.setCell ⟨w1.heap.size + 1, 0, none⟩ (.int .i64 ((pre.length : Int) + 1))).cell? ⟨w.heap.size, 0, none⟩ = some (.int .u8 a) := (i3.keep hk2 (by show ¬ w.heap.size = w1.heap.size + 1; omega)).cell 0
            have k7 := i7.set 0 (.int .i64 ((pre.length : Int) + 1))
            simp at k7
            have e7 : (W.setCell ⟨w1.heap.size + 1, 0, none⟩ (.int .i64 ((pre.length : Int) + 1))).cell? ⟨w1.heap.size + 1, 0, none⟩ = some (.int .i64 ((pre.length : Int) + 1)) := k7.cell 0
            have hK3 := (Below.heap_setCell W ⟨w1.heap.size + 1, 0, none⟩ (.int .i64 ((pre.length : Int) + 1)) D (by show D ≠ w1.heap.size + 1; omega)).trans hKW
            have hL3 := (Below.heap_setCell W ⟨w1.heap.size + 1, 0, none⟩ (.int .i64 ((pre.length : Int) + 1)) D2 (by show D2 ≠ w1.heap.size + 1; omega)).trans hLW
            have hB3 := hBW.setCell (p := ⟨w1.heap.size + 1, 0, none⟩) (Nat.le_refl _) (.int .i64 ((pre.length : Int) + 1))
            have K7 := Lib.hid k7
            have HK3 := Lib.hid hK3
            have HL3 := Lib.hid hL3
            have HB3 := Lib.hid hB3
            clear i3 i7 hk2 k7 hK3 hL3 hB3 hKW hLW hBW hrec hA hr hQ8 q8 o8
            by_cases hgt : t < pre.length + 1
            · have d1 : decide ((t : Int) < (pre.length : Int) + 1) = true := decide_eq_true (by omega)
              gi_wp2_with fail
              refine ⟨kf_set _ _ _ _, ⟨⟨⟨⟨rfl, ?_⟩, ?_⟩, HK3.out⟩, HL3.out⟩, HB3.out⟩
              · rw [List.length_append]; show pre.length + 1 = t + 1; omega
              · rw [List.length_append, show ((pre.length + [y].length : Nat) : Int) = (pre.length : Int) + 1 by simp]; exact K7.out
            · have d1 : decide ((t : Int) < (pre.length : Int) + 1) = false := decide_eq_false (by omega)
              gi_wp2_with fail
              refine ⟨kf_set _ _ _ _, kpz_set _ _ _ rfl, ⟨⟨⟨?_, ?_⟩, HK3.out⟩, HL3.out⟩, HB3.out⟩
              · rw [List.length_append]; show pre.length + 1 ≤ t; omega
              · rw [List.length_append, show ((pre.length + [y].length : Nat) : Int) = (pre.length : Int) + 1 by simp]; exact K7.out
          case done3 =>
            rintro D3 ys W9 hD3 rfl ⟨⟨⟨⟨hle, i7⟩, hKW⟩, hLW⟩, hBW⟩ hMW
            rw [pairs_length] at hle i7
            have i3 := HC3.out.below hBW (by omega)
            have i4 := HC4.out.below hBW (by omega)
            have i6 := HC6.out.below hBW (by omega)
            have c3 : W9.cell? ⟨w.heap.size, 0, none⟩ = some (.int .u8 a) := i3.cell 0
            have c6 : W9.cell? ⟨w1.heap.size, 0, none⟩ = some (.slice Av L.length cv) := i6.cell 0
            have c7 : W9.cell? ⟨w1.heap.size + 1, 0, none⟩ = some (.int .i64 (L.length : Int)) := i7.cell 0
            have HI4 := Lib.hid i4
            have HKW := Lib.hid hKW
            have HLW := Lib.hid hLW
            have HMW := Lib.hid hMW
            have HBW := Lib.hid hBW
            have hbs := hBW.size
            have hmin : ∀ (ts : Array TypeId) (ty : TypeId) (W : World), (Builtin.min_ ts ty #[.int .i64 (L.length : Int), .int .i64 ((t : Int) + 1)]).run Try.prog W = .ok (.int .i64 (L.length : Int)) W := fun ts ty W => by
              rw [run_min_int2]
              rw [if_neg (by omega)]
            clear i3 i4 i6 i7 hKW hLW hMW hBW hA hr hQ8 q8 o8 J9 HB9 HK9 HL9 hle
            go_wp2_with fail
            refine (known_any _).mono ?_
            rintro e W10 ⟨rfl, hb10⟩
            have hA10 := HI4.out.below hb10 HI4.out.lt
            have f2 : W10.cell? ⟨w.heap.size + 1, 0, none⟩ = some (.bool false) := hA10.cell 0
            have ff2 := hA10.frozen 0
            have HA10 := Lib.hid hA10
            have HK10 := Lib.hid ((hb10.block _ (Array.getElem?_eq_some_iff.1 HKW.out).1).trans HKW.out)
            have HL10 := Lib.hid ((hb10.block _ (Array.getElem?_eq_some_iff.1 HLW.out).1).trans HLW.out)
            have HM10 := Lib.hid ((hb10.block _ (Array.getElem?_eq_some_iff.1 HMW.out).1).trans HMW.out)
            have HB10 := Lib.hid (bstep (HB2.out.trans (HBW.out.mono (by omega))) hb10)
            clear hA10 hb10 c3 c6 c7
            go_wp2_with fail
            obtain ⟨g1, g2, g3, rf, hbf⟩ := leave3 HA10.out HM10.out HL10.out HK10.out (by omega) (by omega) (by omega) HB10.out (by omega) (by omega) (by omega) (by omega)
            refine ⟨by simp, .inl ⟨_, _, rfl, run_takeDeferred g1, ?_⟩⟩
            refine ⟨by simp, .inl ⟨_, _, rfl, run_takeDeferred g2, ?_⟩⟩
            refine ⟨by simp, .inl ⟨_, _, rfl, run_takeDeferred g3, ?_⟩⟩
            exact ⟨.bool true, by simp [results, Try.results5, go_sem, rf], rfl, hbf⟩
          case stop3 =>
            rintro D3 c pre W9 hD3 hpre ⟨⟨⟨⟨⟨rfl, hle⟩, i7⟩, hKW⟩, hLW⟩, hBW⟩ hMW
            have hpl := pre_len hpre
            rw [hle] at i7 hpl
            rw [show ((t + 1 : Nat) : Int) = (t : Int) + 1 by omega] at i7
            have hle := hpl
            clear hpl
            have i3 := HC3.out.below hBW (by omega)
            have i4 := HC4.out.below hBW (by omega)
            have i6 := HC6.out.below hBW (by omega)
            have c3 : W9.cell? ⟨w.heap.size, 0, none⟩ = some (.int .u8 a) := i3.cell 0
            have c6 : W9.cell? ⟨w1.heap.size, 0, none⟩ = some (.slice Av L.length cv) := i6.cell 0
            have c7 : W9.cell? ⟨w1.heap.size + 1, 0, none⟩ = some (.int .i64 ((t : Int) + 1)) := i7.cell 0
            have HI4 := Lib.hid i4
            have HKW := Lib.hid hKW
            have HLW := Lib.hid hLW
            have HMW := Lib.hid hMW
            have HBW := Lib.hid hBW
            have hbs := hBW.size
            have hmin : ∀ (ts : Array TypeId) (ty : TypeId) (W : World), (Builtin.min_ ts ty #[.int .i64 (L.length : Int), .int .i64 ((t : Int) + 1)]).run Try.prog W = .ok (.int .i64 ((t : Int) + 1)) W := fun ts ty W => by
              rw [run_min_int2]
              split
              · rfl
              · rw [show (L.length : Int) = (t : Int) + 1 by omega]
            clear i3 i4 i6 i7 hKW hLW hMW hBW hA hr hQ8 q8 o8 J9 HB9 HK9 HL9 hle
            refine wpIn_wide.2 ?_
            go_wp2_with fail
            refine (known_any _).mono ?_
            rintro e W10 ⟨rfl, hb10⟩
            have hA10 := HI4.out.below hb10 HI4.out.lt
            have f2 : W10.cell? ⟨w.heap.size + 1, 0, none⟩ = some (.bool false) := hA10.cell 0
            have ff2 := hA10.frozen 0
            have HA10 := Lib.hid hA10
            have HK10 := Lib.hid ((hb10.block _ (Array.getElem?_eq_some_iff.1 HKW.out).1).trans HKW.out)
            have HL10 := Lib.hid ((hb10.block _ (Array.getElem?_eq_some_iff.1 HLW.out).1).trans HLW.out)
            have HM10 := Lib.hid ((hb10.block _ (Array.getElem?_eq_some_iff.1 HMW.out).1).trans HMW.out)
            have HB10 := Lib.hid (bstep (HB2.out.trans (HBW.out.mono (by omega))) hb10)
            clear hA10 hb10 c3 c6 c7
            go_wp2_with fail
            obtain ⟨g1, g2, g3, rf, hbf⟩ := leave3 HA10.out HM10.out HL10.out HK10.out (by omega) (by omega) (by omega) HB10.out (by omega) (by omega) (by omega) (by omega)
            refine ⟨by simp, .inl ⟨_, _, rfl, run_takeDeferred g1, ?_⟩⟩
            refine ⟨by simp, .inl ⟨_, _, rfl, run_takeDeferred g2, ?_⟩⟩
            refine ⟨by simp, .inl ⟨_, _, rfl, run_takeDeferred g3, ?_⟩⟩
            exact ⟨.bool true, by simp [results, Try.results5, go_sem, rf], rfl, hbf⟩
  case stop =>
    rintro D c pre W hD hpre hx
    exact absurd hpre hx
end Go.Proofs.Ytmimfhjmhlmibaa
