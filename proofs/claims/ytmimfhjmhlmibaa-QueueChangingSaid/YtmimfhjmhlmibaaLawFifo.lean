/- The walk of the law QueueFifo. -/
import Derived.Test.YtmimfhjmhlmibaaLawOps
namespace Go.Proofs.Ytmimfhjmhlmibaa
open Go.RowKit Go.MapKept Go.ChangeMaps Go.Shelf
set_option linter.unusedVariables false
attribute [local go_sem ↓] Go.wp_at_zero Go.wp_at_succ
attribute [local go_sem] Oper.semAt_some

theorem ownFrom_ex {β γ : Type} {n : Nat} {J : γ → β → World → Prop} (h : ∀ c, OwnFrom n (J c)) : OwnFrom n (fun s W => ∃ c, J c s W) :=
  fun s X Y row ⟨c, hs⟩ hg hr => ⟨c, h c s X Y row hs hg hr⟩
/-- the last key lies before the one to come -/
def Fine (c : Bool × Int × Int) (n : Nat) (l : List E) : Prop := c.1 = false → ∀ h : n < l.length, kbef c.2.1 c.2.2 l[n].p l[n].s = true
/-- what holds between two rounds -/
def FifoI (w1 : World) (q : Nat) (l : List E) (pre : List (ByteArray × Int)) (W : World) : Prop := ∃ c : Bool × Int × Int,
  ((((pre <+: pairs l → Fine c pre.length l) ∧ At W w1.heap.size 44 #[.pointer (some ⟨q, 0, none⟩)]) ∧ At W (w1.heap.size + 1) 4 #[.bool c.1]) ∧ At W (w1.heap.size + 1 + 1) 25 #[.int .i64 c.2.1, .int .i64 c.2.2]) ∧ Below w1.heap.size w1 W
theorem fifoI_own (w1 : World) (q : Nat) (l : List E) (n : Nat) (hn : w1.heap.size ≤ n) : OwnFrom n (FifoI w1 q l) :=
  ownFrom_ex fun c => ((((ownFrom_pure n _).and (ownFrom_at n _ _ (fun _ => #[.pointer (some ⟨q, 0, none⟩)]))).and (ownFrom_at n _ _ (fun _ => #[.bool c.1]))).and (ownFrom_at n _ _ (fun _ => #[.int .i64 c.2.1, .int .i64 c.2.2]))).and (ownFrom_low hn (Nat.le_refl _))
/-- the blocks a round writes -/
def fifoZ (w w1 : World) (r : Nat) : Prop := r = w.heap.size ∨ r = w1.heap.size + 1 ∨ r = w1.heap.size + 1 + 1

theorem leave1 {w W : World} {r D : Nat} {u : Value} (hr : At W r 4 #[u]) (h1 : W.heap[D]? = some (.deferred (some []))) (hb : Below w.heap.size w W) (br : w.heap.size ≤ r) (b1 : w.heap.size ≤ D) :
    (W.setCell ⟨r, 0, none⟩ (.bool true)).heap[D]? = some (.deferred (some [])) ∧
    ((W.setCell ⟨r, 0, none⟩ (.bool true)).putObj D (.deferred none)).cell? ⟨r, 0, none⟩ = some (.bool true) ∧
    Below w.heap.size w ((W.setCell ⟨r, 0, none⟩ (.bool true)).putObj D (.deferred none)) := by
  have n1 : r ≠ D := fun e => by
    subst e
    rw [show W.heap[r]? = _ from hr] at h1
    cases h1
  have k1 : (W.setCell ⟨r, 0, none⟩ (.bool true)).heap[D]? = some (.deferred (some [])) := (Below.heap_setCell W ⟨r, 0, none⟩ _ D (Ne.symm n1)).trans h1
  have h5 := hr.set 0 (.bool true)
  simp at h5
  have h6 : At ((W.setCell ⟨r, 0, none⟩ (.bool true)).putObj D (.deferred none)) r 4 #[.bool true] := (World.putObj_heap_other n1).trans h5
  exact ⟨k1, h6.cell 0, (hb.setCell (p := ⟨r, 0, none⟩) br _).trans (belowK_b (w := w) (Nat.le_refl _) _ D _ _ b1 k1 rfl rfl)⟩

theorem fine_step {l : List E} (hg : Sorted l) (n : Nat) (h : n < l.length) : Fine (false, l[n].p, l[n].s) (n + 1) l := fun _ h2 => sorted_get hg n (n + 1) h2 (Nat.lt_succ_self n)
theorem fifoI_step {w1 W W2 : World} {q : Nat} {l : List E} {pre : List (ByteArray × Int)} {y : ByteArray × Int} {p s : Int} (h : FifoI w1 q l pre W) (hb : Below W.heap.size W W2) (hf : pre ++ [y] <+: pairs l → Fine (false, p, s) (pre.length + 1) l) :
    FifoI w1 q l (pre ++ [y]) (((W2.setCell ⟨w1.heap.size + 1, 0, none⟩ (.bool false)).setCell ⟨w1.heap.size + 1 + 1, 0, none⟩ (.int .i64 p)).setCell ⟨w1.heap.size + 1 + 1, 1, none⟩ (.int .i64 s)) := by
  obtain ⟨c, ⟨⟨⟨_, i3⟩, i5⟩, i6⟩, hB⟩ := h
  have j3 := i3.below hb i3.lt
  have j5 := (i5.below hb i5.lt).set 0 (.bool false)
  have j6 := i6.below hb i6.lt
  have hB2 := hB.trans (hb.mono hB.size)
  simp at j5
  have k3 := ((j3.far (p := ⟨w1.heap.size + 1, 0, none⟩) (by show w1.heap.size ≠ w1.heap.size + 1; omega) (.bool false)).far (p := ⟨w1.heap.size + 1 + 1, 0, none⟩) (by show w1.heap.size ≠ w1.heap.size + 1 + 1; omega) (.int .i64 p)).far (p := ⟨w1.heap.size + 1 + 1, 1, none⟩) (by show w1.heap.size ≠ w1.heap.size + 1 + 1; omega) (.int .i64 s)
  have k5 := (j5.far (p := ⟨w1.heap.size + 1 + 1, 0, none⟩) (by show w1.heap.size + 1 ≠ w1.heap.size + 1 + 1; omega) (.int .i64 p)).far (p := ⟨w1.heap.size + 1 + 1, 1, none⟩) (by show w1.heap.size + 1 ≠ w1.heap.size + 1 + 1; omega) (.int .i64 s)
  have k6 := ((j6.far (p := ⟨w1.heap.size + 1, 0, none⟩) (by show w1.heap.size + 1 + 1 ≠ w1.heap.size + 1; omega) (.bool false)).set 0 (.int .i64 p)).set 1 (.int .i64 s)
  simp at k6
  refine ⟨(false, p, s), ⟨⟨⟨fun hp => ?_, k3⟩, k5⟩, k6⟩, ((hB2.setCell (p := ⟨w1.heap.size + 1, 0, none⟩) (by show w1.heap.size ≤ w1.heap.size + 1; omega) _).setCell (p := ⟨w1.heap.size + 1 + 1, 0, none⟩) (by show w1.heap.size ≤ w1.heap.size + 1 + 1; omega) _).setCell (p := ⟨w1.heap.size + 1 + 1, 1, none⟩) (by show w1.heap.size ≤ w1.heap.size + 1 + 1; omega) _⟩
  rw [List.length_append]
  exact hf hp

theorem fine_false {p s : Int} {n : Nat} {l : List E} (h : Fine (false, p, s) n l) (hn : n < l.length) : ¬ p < l[n].p ∧ (l[n].p = p → ¬ l[n].s ≤ s) := by
  have : l[n].p < p ∨ (p = l[n].p ∧ s < l[n].s) := kbef_iff.1 (h rfl hn)
  omega
theorem not_in {l : List E} {i : ByteArray} (h : ¬ ∃ k, ∃ hk : k < l.length, l[k].id = i) : ∀ e ∈ l, e.id ≠ i := fun e he hi => by
  obtain ⟨k, hk, rfl⟩ := List.getElem_of_mem he
  exact h ⟨k, hk, hi⟩
theorem FifoI.below {w1 : World} {q : Nat} {l : List E} {pre : List (ByteArray × Int)} {W W' : World} (h : FifoI w1 q l pre W) (hb : Below W.heap.size W W') : FifoI w1 q l pre W' := by
  obtain ⟨c, ⟨⟨⟨hf, i3⟩, i5⟩, i6⟩, hB⟩ := h
  exact ⟨c, ⟨⟨⟨hf, i3.below hb i3.lt⟩, i5.below hb i5.lt⟩, i6.below hb i6.lt⟩, hB.trans (hb.mono hB.size)⟩
theorem fifo_end {B : Nat} {w w1 W W2 : World} {q : Nat} {l : List E} {pre : List (ByteArray × Int)} {y : ByteArray × Int} {p s : Int} (h : FifoI w1 q l pre W) (hb : Below W.heap.size W W2) (hf : pre ++ [y] <+: pairs l → Fine (false, p, s) (pre.length + 1) l) :
    KeepsFrom B W (((W2.setCell ⟨w1.heap.size + 1, 0, none⟩ (.bool false)).setCell ⟨w1.heap.size + 1 + 1, 0, none⟩ (.int .i64 p)).setCell ⟨w1.heap.size + 1 + 1, 1, none⟩ (.int .i64 s)).drew ∧
    KpZ (Zs (fifoZ w w1)) W (((W2.setCell ⟨w1.heap.size + 1, 0, none⟩ (.bool false)).setCell ⟨w1.heap.size + 1 + 1, 0, none⟩ (.int .i64 p)).setCell ⟨w1.heap.size + 1 + 1, 1, none⟩ (.int .i64 s)).drew ∧
    FifoI w1 q l (pre ++ [y]) (((W2.setCell ⟨w1.heap.size + 1, 0, none⟩ (.bool false)).setCell ⟨w1.heap.size + 1 + 1, 0, none⟩ (.int .i64 p)).setCell ⟨w1.heap.size + 1 + 1, 1, none⟩ (.int .i64 s)).drew :=
  ⟨((((kf_below hb).trans (kf_set _ _ _ _)).trans (kf_set _ _ _ _)).trans (kf_set _ _ _ _)).trans (kf_below (Below.refl _ _).drew),
    ((((kpz_below hb).trans (kpz_set _ _ _ (.inr (.inl rfl)))).trans (kpz_set _ _ _ (.inr (.inr rfl)))).trans (kpz_set _ _ _ (.inr (.inr rfl)))).trans (kpz_below (Below.refl _ _).drew),
    (fifoI_step h hb hf).below (Below.refl _ _).drew⟩

set_option maxRecDepth 100000 in
set_option maxHeartbeats 16000000 in
theorem queueFifo_walk (S : Value) (os : List (Int × E)) (w : World) (h : OL w S os) : Calls Try.prog 8 #[S] w fun e w' => e = .returned (.bool true) ∧ Below w.heap.size w w' := by
  have H := Lib.hid h
  obtain ⟨SA, sn, sc, rfl⟩ : ∃ A n c, S = .slice A n c := by
    rcases h with ⟨A, cap, rfl, _⟩ | ⟨b, off, cap, rfl, _⟩
    · exact ⟨_, _, _, rfl⟩
    · exact ⟨_, _, _, rfl⟩
  clear h
  have hB0 : Below w.heap.size w (w.alloc (.cells #[.bool false] 4)) := (Below.refl _ _).alloc (Nat.le_refl _) _
  have a2 := At.new w 4 #[.bool false]
  refine (callsIn_wide (n := 5)).1 (callsIn_of_wp_marks Try.func8 rfl trivial ?_ rfl)
  simp only [Try.ntmps8, List.size_toArray, List.length_cons, List.length_nil, Nat.reduceAdd, Nat.reduceSub, Array.replicate_succ, Array.replicate_zero, List.push_toArray, List.append_toArray, List.nil_append, List.cons_append]
  refine wpIn_wide.2 ?_
  go_wp2_with fail
  refine (known_any _).mono ?_
  rintro e w0 ⟨rfl, hb0⟩
  have hB1 := bstep hB0 hb0
  have a2' := a2.below hb0 a2.lt
  clear a2 hB0 hb0
  go_wp2_with fail
  refine (build_any _ os w0 (H.out.below hB1)).mono ?_
  rintro e w1 ⟨q, v, rfl, hbo⟩
  obtain ⟨g, m1, m2, ⟨hq, hrl, hoff⟩, hz, hv, hb1, hs1⟩ := hbo
  have hB2 := bstep hB1 hb1
  have a2'' := a2'.below hb1 a2'.lt
  have HQ := Lib.hid hq
  have hlf := length_foldP os [] 60
  simp only [List.length_nil] at hlf
  generalize foldP 60 os [] = L at *
  clear a2' hB1 hb1 hq hrl hoff
  go_wp2_with (go_at_call 22; refine (all_any _ _).mono ?_; rintro e w' ⟨rfl, rfl⟩)
  have hB3 : Below w1.heap.size w1 (((((w1.alloc (.cells #[.pointer (some ⟨q, 0, none⟩)] 44)).alloc (.cells #[.bool true] 4)).alloc (.cells #[.int .i64 0, .int .i64 0] 25)).alloc (.cells #[.pointer (some ⟨q, 0, none⟩)] 44)).alloc (.cells #[.func (.func 45) #[] #[]] 50)) := (((((Below.refl _ _).alloc (Nat.le_refl _) _).alloc (by simp) _).alloc (by simp; omega) _).alloc (by simp; omega) _).alloc (by simp; omega) _
  have b1 := ((((At.new w1 44 #[.pointer (some ⟨q, 0, none⟩)]).alloc (.cells #[.bool true] 4)).alloc (.cells #[.int .i64 0, .int .i64 0] 25)).alloc (.cells #[.pointer (some ⟨q, 0, none⟩)] 44)).alloc (.cells #[.func (.func 45) #[] #[]] 50)
  have b2 := (((At.new (w1.alloc (.cells #[.pointer (some ⟨q, 0, none⟩)] 44)) 4 #[.bool true]).alloc (.cells #[.int .i64 0, .int .i64 0] 25)).alloc (.cells #[.pointer (some ⟨q, 0, none⟩)] 44)).alloc (.cells #[.func (.func 45) #[] #[]] 50)
  have b3 := ((At.new ((w1.alloc (.cells #[.pointer (some ⟨q, 0, none⟩)] 44)).alloc (.cells #[.bool true] 4)) 25 #[.int .i64 0, .int .i64 0]).alloc (.cells #[.pointer (some ⟨q, 0, none⟩)] 44)).alloc (.cells #[.func (.func 45) #[] #[]] 50)
  have b4 := (At.new (((w1.alloc (.cells #[.pointer (some ⟨q, 0, none⟩)] 44)).alloc (.cells #[.bool true] 4)).alloc (.cells #[.int .i64 0, .int .i64 0] 25)) 44 #[.pointer (some ⟨q, 0, none⟩)]).alloc (.cells #[.func (.func 45) #[] #[]] 50)
  have b5 := At.new ((((w1.alloc (.cells #[.pointer (some ⟨q, 0, none⟩)] 44)).alloc (.cells #[.bool true] 4)).alloc (.cells #[.int .i64 0, .int .i64 0] 25)).alloc (.cells #[.pointer (some ⟨q, 0, none⟩)] 44)) 50 #[.func (.func 45) #[] #[]]
  have hsl : (((((w1.alloc (.cells #[.pointer (some ⟨q, 0, none⟩)] 44)).alloc (.cells #[.bool true] 4)).alloc (.cells #[.int .i64 0, .int .i64 0] 25)).alloc (.cells #[.pointer (some ⟨q, 0, none⟩)] 44)).alloc (.cells #[.func (.func 45) #[] #[]] 50)).heap.size = w1.heap.size + 1 + 1 + 1 + 1 + 1 := by simp
  simp only [World.size_alloc] at b2 b3 b4 b5
  generalize (((((w1.alloc (.cells #[.pointer (some ⟨q, 0, none⟩)] 44)).alloc (.cells #[.bool true] 4)).alloc (.cells #[.int .i64 0, .int .i64 0] 25)).alloc (.cells #[.pointer (some ⟨q, 0, none⟩)] 44)).alloc (.cells #[.func (.func 45) #[] #[]] 50)) = wl at *
  have hQl := HQ.out.below hB3
  have hqlt := HQ.out.qlt
  have hwl := a2''.lt
  have HA2 := Lib.hid a2''
  have HB2 := Lib.hid hB2
  clear a2'' hB2
  obtain ⟨A, cap, hA, hr, hc⟩ := hQl.body
  refine (wpIn_wide (n := 5)).1 ?_
  refine wpIn_rangeFunc_ownH (w := wl) rfl (by omega) (gf := 43) (lb := #[.pointer (some ⟨w1.heap.size + 1 + 1 + 1, 0, none⟩), .pointer (some ⟨w1.heap.size + 1 + 1 + 1 + 1, 0, none⟩)]) rfl trivial (enters_of Try.func43 (by kernel_rfl) rfl)
    (all_stops 4 (by omega) (Zs (fifoZ w w1)) 0 q g (w1.heap.size + 1 + 1 + 1) (w1.heap.size + 1 + 1 + 1 + 1) cap A L (.map (some m1)) (.map (some m2)) wl (still_zs _ _) (Nat.zero_le _) (b4.cell 0) (b5.cell 0) hA hr hQl.row (by omega) (fun r z => by rcases z with rfl | rfl | rfl <;> omega) (fun z => by rcases z with h | h | h <;> omega))
    kpz_t kpz_b (Below.refl _ _) (fun _ => rfl) (FifoI w1 q L) (fun c pre W => ¬ pre <+: pairs L) (fifoI_own w1 q L _ (by omega)) (fun c => ownFrom_pure _ _)
    ⟨(true, 0, 0), ⟨⟨⟨fun _ h => (by cases h), b1⟩, b2⟩, b3⟩, hB3⟩
    (fun x a' W => a' = { tmps := #[.slice SA sn sc, undef, .pointer (some ⟨w.heap.size, 0, none⟩), .pointer (some ⟨w1.heap.size, 0, none⟩), v, .pointer (some ⟨w1.heap.size + 1, 0, none⟩), .pointer (some ⟨w1.heap.size + 1 + 1, 0, none⟩), .string x.1, undef, undef, undef, .bool true, .bool false, .tuple #[.pointer (some ⟨q, 0, none⟩), v], .slice SA sn sc, .tuple #[.pointer (some ⟨q, 0, none⟩), v], .pointer (some ⟨q, 0, none⟩), v, .pointer (some ⟨q, 0, none⟩), .bool false, .pointer (some ⟨q, 0, none⟩), .func (.func 43) #[] #[.pointer (some ⟨w1.heap.size + 1 + 1 + 1, 0, none⟩), .pointer (some ⟨w1.heap.size + 1 + 1 + 1 + 1, 0, none⟩)], .string x.1, .int .i64 x.2, undef, undef, undef, undef, undef, undef, undef, undef, undef, undef, undef, undef, undef, undef, undef, undef, undef, undef, undef, undef, undef, undef, undef, undef, undef, undef, undef, undef, undef, undef, undef, undef, undef, undef, undef, undef], defers := [] }) (fun _ _ _ _ _ _ hs _ _ => hs) ?assign ?body ?done ?stop
  case assign =>
    intro lb pre x W K hi hK
    gi_wp2
    exact hK _ _ (KeepsFrom.refl _ _) (KpZ.refl _ _) hi rfl
  case body =>
    rintro lb pre x a' W hlb hrec hFI rfl hlen
    have hmx : Try.prog.follows .mixedOrders = true := by kernel_rfl
    have HFI := Lib.hid hFI
    have HW2 : Hid (w.heap.size < W.heap.size) := Lib.hid (by obtain ⟨c, _, hBW⟩ := hFI; have := hBW.size; omega)
    obtain ⟨⟨f, p, s⟩, ⟨⟨⟨hfine, i3⟩, i5⟩, i6⟩, hBW⟩ := hFI
    have HQW := Lib.hid (HQ.out.below hBW)
    have s3 : W.cell? ⟨w1.heap.size, 0, none⟩ = some (.pointer (some ⟨q, 0, none⟩)) := i3.cell 0
    have i2 := HA2.out.below hBW hwl
    have HFine := Lib.hid hfine
    clear hfine
    by_cases hp : pre ++ [x] <+: pairs L
    · obtain ⟨hn, hx1, hx2⟩ := pre_get hp
      gi_wp2_with fail
      refine ⟨trivial, (CallsIn.inRound lb (callsIn_wide.2 (get_present q g m1 m2 pre.length L _ L[pre.length] _ HQW.out (by omega) hn rfl rfl))).mono ?_⟩
      rintro e W2 ⟨rfl, hb2⟩
      obtain ⟨t2, t3, t5, t6⟩ : At W2 w.heap.size 4 #[.bool false] ∧ At W2 w1.heap.size 44 #[.pointer (some ⟨q, 0, none⟩)] ∧ At W2 (w1.heap.size + 1) 4 #[.bool f] ∧ At W2 (w1.heap.size + 1 + 1) 25 #[.int .i64 p, .int .i64 s] := ⟨i2.below hb2 i2.lt, i3.below hb2 i3.lt, i5.below hb2 i5.lt, i6.below hb2 i6.lt⟩
      have l2 := t2.lt
      have l5 := t5.lt
      have l6 := t6.lt
      have c2 : W2.cell? ⟨w.heap.size, 0, none⟩ = some (.bool false) := t2.cell 0
      have g2 := t2.frozen 0
      have c5 : W2.cell? ⟨w1.heap.size + 1, 0, none⟩ = some (.bool f) := t5.cell 0
      have c60 : W2.cell? ⟨w1.heap.size + 1 + 1, 0, none⟩ = some (.int .i64 p) := t6.cell 0
      have c61 : W2.cell? ⟨w1.heap.size + 1 + 1, 1, none⟩ = some (.int .i64 s) := t6.cell 1
      cases f with
      | true =>
        gi_wp2_with fail
        have hb3 : Below W.heap.size W (W2.alloc (.cells #[.int .i64 L[pre.length].p, .int .i64 L[pre.length].s] 25)) := hb2.alloc hb2.size _
        have u5 := t5.alloc (.cells #[.int .i64 L[pre.length].p, .int .i64 L[pre.length].s] 25)
        have u6 := t6.alloc (.cells #[.int .i64 L[pre.length].p, .int .i64 L[pre.length].s] 25)
        have uk := At.new W2 25 #[.int .i64 L[pre.length].p, .int .i64 L[pre.length].s]
        generalize W2.alloc (.cells #[.int .i64 L[pre.length].p, .int .i64 L[pre.length].s] 25) = W3 at *
        have e5 : W3.cell? ⟨w1.heap.size + 1, 0, none⟩ = some (.bool true) := u5.cell 0
        have g5 := u5.frozen 0
        have e60 : W3.cell? ⟨w1.heap.size + 1 + 1, 0, none⟩ = some (.int .i64 p) := u6.cell 0
        have e61 : W3.cell? ⟨w1.heap.size + 1 + 1, 1, none⟩ = some (.int .i64 s) := u6.cell 1
        have g60 := u6.frozen 0
        have g61 := u6.frozen 1
        have ek0 : W3.cell? ⟨W2.heap.size, 0, none⟩ = some (.int .i64 L[pre.length].p) := uk.cell 0
        have ek1 : W3.cell? ⟨W2.heap.size, 1, none⟩ = some (.int .i64 L[pre.length].s) := uk.cell 1
        have HB3 := Lib.hid hb3
        clear hb3 u5 u6 uk c5 c60 c61 t3 t5 t6 i3 i5 i6 hb2 hBW
        gi_region_with_o (fail)
        all_goals exact fifo_end HFI.out HB3.out (fun _ => fine_step HQ.out.good.sorted _ hn)
      | false =>
        by_cases h1 : p < L[pre.length].p
        · exact absurd h1 (fine_false (HFine.out ((List.prefix_append _ _).trans hp)) hn).1
        · by_cases h2 : L[pre.length].p = p
          · by_cases h3 : L[pre.length].s ≤ s
            · exact absurd h3 ((fine_false (HFine.out ((List.prefix_append _ _).trans hp)) hn).2 h2)
            · have d1 : decide (p < L[pre.length].p) = false := by simpa using h1
              have d2 : (L[pre.length].p == p) = true := by simpa using h2
              have d2' : decide (L[pre.length].p = p) = true := by simpa using h2
              clear h2
              have d3 : decide (L[pre.length].s ≤ s) = false := by simpa using h3
              gi_wp2_with fail
              have hb3 : Below W.heap.size W (W2.alloc (.cells #[.int .i64 L[pre.length].p, .int .i64 L[pre.length].s] 25)) := hb2.alloc hb2.size _
              have u5 := t5.alloc (.cells #[.int .i64 L[pre.length].p, .int .i64 L[pre.length].s] 25)
              have u6 := t6.alloc (.cells #[.int .i64 L[pre.length].p, .int .i64 L[pre.length].s] 25)
              have uk := At.new W2 25 #[.int .i64 L[pre.length].p, .int .i64 L[pre.length].s]
              generalize W2.alloc (.cells #[.int .i64 L[pre.length].p, .int .i64 L[pre.length].s] 25) = W3 at *
              have e5 : W3.cell? ⟨w1.heap.size + 1, 0, none⟩ = some (.bool false) := u5.cell 0
              have g5 := u5.frozen 0
              have e60 : W3.cell? ⟨w1.heap.size + 1 + 1, 0, none⟩ = some (.int .i64 p) := u6.cell 0
              have e61 : W3.cell? ⟨w1.heap.size + 1 + 1, 1, none⟩ = some (.int .i64 s) := u6.cell 1
              have g60 := u6.frozen 0
              have g61 := u6.frozen 1
              have ek0 : W3.cell? ⟨W2.heap.size, 0, none⟩ = some (.int .i64 L[pre.length].p) := uk.cell 0
              have ek1 : W3.cell? ⟨W2.heap.size, 1, none⟩ = some (.int .i64 L[pre.length].s) := uk.cell 1
              have HB3 := Lib.hid hb3
              clear hb3 u5 u6 uk c5 c60 c61 t3 t5 t6 i3 i5 i6 hb2 hBW
              gi_region_with_o (fail)
              all_goals exact fifo_end HFI.out HB3.out (fun _ => fine_step HQ.out.good.sorted _ hn)
          · have d1 : decide (p < L[pre.length].p) = false := by simpa using h1
            have d2 : (L[pre.length].p == p) = false := by simpa using h2
            have d2' : decide (L[pre.length].p = p) = false := by simpa using h2
            clear h2
            gi_wp2_with fail
            have hb3 : Below W.heap.size W (W2.alloc (.cells #[.int .i64 L[pre.length].p, .int .i64 L[pre.length].s] 25)) := hb2.alloc hb2.size _
            have u5 := t5.alloc (.cells #[.int .i64 L[pre.length].p, .int .i64 L[pre.length].s] 25)
            have u6 := t6.alloc (.cells #[.int .i64 L[pre.length].p, .int .i64 L[pre.length].s] 25)
            have uk := At.new W2 25 #[.int .i64 L[pre.length].p, .int .i64 L[pre.length].s]
            generalize W2.alloc (.cells #[.int .i64 L[pre.length].p, .int .i64 L[pre.length].s] 25) = W3 at *
            have e5 : W3.cell? ⟨w1.heap.size + 1, 0, none⟩ = some (.bool false) := u5.cell 0
            have g5 := u5.frozen 0
            have e60 : W3.cell? ⟨w1.heap.size + 1 + 1, 0, none⟩ = some (.int .i64 p) := u6.cell 0
            have e61 : W3.cell? ⟨w1.heap.size + 1 + 1, 1, none⟩ = some (.int .i64 s) := u6.cell 1
            have g60 := u6.frozen 0
            have g61 := u6.frozen 1
            have ek0 : W3.cell? ⟨W2.heap.size, 0, none⟩ = some (.int .i64 L[pre.length].p) := uk.cell 0
            have ek1 : W3.cell? ⟨W2.heap.size, 1, none⟩ = some (.int .i64 L[pre.length].s) := uk.cell 1
            have HB3 := Lib.hid hb3
            clear hb3 u5 u6 uk c5 c60 c61 t3 t5 t6 i3 i5 i6 hb2 hBW
            gi_region_with_o (fail)
            all_goals exact fifo_end HFI.out HB3.out (fun _ => fine_step HQ.out.good.sorted _ hn)
    · have HN := Lib.hid hp
      by_cases hin : ∃ k, ∃ hk : k < L.length, L[k].id = x.1
      · obtain ⟨k, hk, hkx⟩ := hin
        gi_wp2_with fail
        refine ⟨trivial, (CallsIn.inRound lb (callsIn_wide.2 (get_present q g m1 m2 k L _ L[k] _ HQW.out (by omega) hk rfl hkx))).mono ?_⟩
        rintro e W2 ⟨rfl, hb2⟩
        obtain ⟨t2, t3, t5, t6⟩ : At W2 w.heap.size 4 #[.bool false] ∧ At W2 w1.heap.size 44 #[.pointer (some ⟨q, 0, none⟩)] ∧ At W2 (w1.heap.size + 1) 4 #[.bool f] ∧ At W2 (w1.heap.size + 1 + 1) 25 #[.int .i64 p, .int .i64 s] := ⟨i2.below hb2 i2.lt, i3.below hb2 i3.lt, i5.below hb2 i5.lt, i6.below hb2 i6.lt⟩
        have l2 := t2.lt
        have l5 := t5.lt
        have l6 := t6.lt
        have c2 : W2.cell? ⟨w.heap.size, 0, none⟩ = some (.bool false) := t2.cell 0
        have g2 := t2.frozen 0
        have c5 : W2.cell? ⟨w1.heap.size + 1, 0, none⟩ = some (.bool f) := t5.cell 0
        have c60 : W2.cell? ⟨w1.heap.size + 1 + 1, 0, none⟩ = some (.int .i64 p) := t6.cell 0
        have c61 : W2.cell? ⟨w1.heap.size + 1 + 1, 1, none⟩ = some (.int .i64 s) := t6.cell 1
        cases f with
        | true =>
          gi_wp2_with fail
          have hb3 : Below W.heap.size W (W2.alloc (.cells #[.int .i64 L[k].p, .int .i64 L[k].s] 25)) := hb2.alloc hb2.size _
          have u5 := t5.alloc (.cells #[.int .i64 L[k].p, .int .i64 L[k].s] 25)
          have u6 := t6.alloc (.cells #[.int .i64 L[k].p, .int .i64 L[k].s] 25)
          have uk := At.new W2 25 #[.int .i64 L[k].p, .int .i64 L[k].s]
          generalize W2.alloc (.cells #[.int .i64 L[k].p, .int .i64 L[k].s] 25) = W3 at *
          have e5 : W3.cell? ⟨w1.heap.size + 1, 0, none⟩ = some (.bool true) := u5.cell 0
          have g5 := u5.frozen 0
          have e60 : W3.cell? ⟨w1.heap.size + 1 + 1, 0, none⟩ = some (.int .i64 p) := u6.cell 0
          have e61 : W3.cell? ⟨w1.heap.size + 1 + 1, 1, none⟩ = some (.int .i64 s) := u6.cell 1
          have g60 := u6.frozen 0
          have g61 := u6.frozen 1
          have ek0 : W3.cell? ⟨W2.heap.size, 0, none⟩ = some (.int .i64 L[k].p) := uk.cell 0
          have ek1 : W3.cell? ⟨W2.heap.size, 1, none⟩ = some (.int .i64 L[k].s) := uk.cell 1
          have HB3 := Lib.hid hb3
          clear hb3 u5 u6 uk c5 c60 c61 t3 t5 t6 i3 i5 i6 hb2 hBW
          gi_region_with_o (fail)
          all_goals exact fifo_end HFI.out HB3.out (fun h => absurd h HN.out)
        | false =>
          by_cases h1 : p < L[k].p
          · have d1 : decide (p < L[k].p) = true := by simpa using h1
            gi_wp2_with fail
            exact ⟨((kf_below hb2).trans (kf_set _ _ _ _)).trans (kf_below ((Below.refl _ _).alloc (Nat.le_refl _) _)), HN.out⟩
          · by_cases h2 : L[k].p = p
            · by_cases h3 : L[k].s ≤ s
              · have d1 : decide (p < L[k].p) = false := by simpa using h1
                have d2 : (L[k].p == p) = true := by simpa using h2
                have d2' : decide (L[k].p = p) = true := by simpa using h2
                clear h2
                have d3 : decide (L[k].s ≤ s) = true := by simpa using h3
                gi_wp2_with fail
                exact ⟨((kf_below hb2).trans (kf_set _ _ _ _)).trans (kf_below ((Below.refl _ _).alloc (Nat.le_refl _) _)), HN.out⟩
              · have d1 : decide (p < L[k].p) = false := by simpa using h1
                have d2 : (L[k].p == p) = true := by simpa using h2
                have d2' : decide (L[k].p = p) = true := by simpa using h2
                clear h2
                have d3 : decide (L[k].s ≤ s) = false := by simpa using h3
                gi_wp2_with fail
                have hb3 : Below W.heap.size W (W2.alloc (.cells #[.int .i64 L[k].p, .int .i64 L[k].s] 25)) := hb2.alloc hb2.size _
                have u5 := t5.alloc (.cells #[.int .i64 L[k].p, .int .i64 L[k].s] 25)
                have u6 := t6.alloc (.cells #[.int .i64 L[k].p, .int .i64 L[k].s] 25)
                have uk := At.new W2 25 #[.int .i64 L[k].p, .int .i64 L[k].s]
                generalize W2.alloc (.cells #[.int .i64 L[k].p, .int .i64 L[k].s] 25) = W3 at *
                have e5 : W3.cell? ⟨w1.heap.size + 1, 0, none⟩ = some (.bool false) := u5.cell 0
                have g5 := u5.frozen 0
                have e60 : W3.cell? ⟨w1.heap.size + 1 + 1, 0, none⟩ = some (.int .i64 p) := u6.cell 0
                have e61 : W3.cell? ⟨w1.heap.size + 1 + 1, 1, none⟩ = some (.int .i64 s) := u6.cell 1
                have g60 := u6.frozen 0
                have g61 := u6.frozen 1
                have ek0 : W3.cell? ⟨W2.heap.size, 0, none⟩ = some (.int .i64 L[k].p) := uk.cell 0
                have ek1 : W3.cell? ⟨W2.heap.size, 1, none⟩ = some (.int .i64 L[k].s) := uk.cell 1
                have HB3 := Lib.hid hb3
                clear hb3 u5 u6 uk c5 c60 c61 t3 t5 t6 i3 i5 i6 hb2 hBW
                gi_region_with_o (fail)
                all_goals exact fifo_end HFI.out HB3.out (fun h => absurd h HN.out)
            · have d1 : decide (p < L[k].p) = false := by simpa using h1
              have d2 : (L[k].p == p) = false := by simpa using h2
              have d2' : decide (L[k].p = p) = false := by simpa using h2
              clear h2
              gi_wp2_with fail
              have hb3 : Below W.heap.size W (W2.alloc (.cells #[.int .i64 L[k].p, .int .i64 L[k].s] 25)) := hb2.alloc hb2.size _
              have u5 := t5.alloc (.cells #[.int .i64 L[k].p, .int .i64 L[k].s] 25)
              have u6 := t6.alloc (.cells #[.int .i64 L[k].p, .int .i64 L[k].s] 25)
              have uk := At.new W2 25 #[.int .i64 L[k].p, .int .i64 L[k].s]
              generalize W2.alloc (.cells #[.int .i64 L[k].p, .int .i64 L[k].s] 25) = W3 at *
              have e5 : W3.cell? ⟨w1.heap.size + 1, 0, none⟩ = some (.bool false) := u5.cell 0
              have g5 := u5.frozen 0
              have e60 : W3.cell? ⟨w1.heap.size + 1 + 1, 0, none⟩ = some (.int .i64 p) := u6.cell 0
              have e61 : W3.cell? ⟨w1.heap.size + 1 + 1, 1, none⟩ = some (.int .i64 s) := u6.cell 1
              have g60 := u6.frozen 0
              have g61 := u6.frozen 1
              have ek0 : W3.cell? ⟨W2.heap.size, 0, none⟩ = some (.int .i64 L[k].p) := uk.cell 0
              have ek1 : W3.cell? ⟨W2.heap.size, 1, none⟩ = some (.int .i64 L[k].s) := uk.cell 1
              have HB3 := Lib.hid hb3
              clear hb3 u5 u6 uk c5 c60 c61 t3 t5 t6 i3 i5 i6 hb2 hBW
              gi_region_with_o (fail)
              all_goals exact fifo_end HFI.out HB3.out (fun h => absurd h HN.out)
      · gi_wp2_with fail
        refine ⟨trivial, (CallsIn.inRound lb (callsIn_wide.2 (get_absent q g m1 m2 L _ _ HQW.out (by omega) (not_in hin)))).mono ?_⟩
        rintro e W2 ⟨rfl, hb2⟩
        obtain ⟨t2, t3, t5, t6⟩ : At W2 w.heap.size 4 #[.bool false] ∧ At W2 w1.heap.size 44 #[.pointer (some ⟨q, 0, none⟩)] ∧ At W2 (w1.heap.size + 1) 4 #[.bool f] ∧ At W2 (w1.heap.size + 1 + 1) 25 #[.int .i64 p, .int .i64 s] := ⟨i2.below hb2 i2.lt, i3.below hb2 i3.lt, i5.below hb2 i5.lt, i6.below hb2 i6.lt⟩
        have l2 := t2.lt
        have l5 := t5.lt
        have l6 := t6.lt
        have c2 : W2.cell? ⟨w.heap.size, 0, none⟩ = some (.bool false) := t2.cell 0
        have g2 := t2.frozen 0
        have c5 : W2.cell? ⟨w1.heap.size + 1, 0, none⟩ = some (.bool f) := t5.cell 0
        have c60 : W2.cell? ⟨w1.heap.size + 1 + 1, 0, none⟩ = some (.int .i64 p) := t6.cell 0
        have c61 : W2.cell? ⟨w1.heap.size + 1 + 1, 1, none⟩ = some (.int .i64 s) := t6.cell 1
        gi_wp2_with fail
        exact ⟨((kf_below hb2).trans (kf_set _ _ _ _)).trans (kf_below ((Below.refl _ _).alloc (Nat.le_refl _) _)), HN.out⟩
  case done =>
    rintro D ys W hD rfl hI hK
    obtain ⟨c, _, hBW⟩ := hI
    have HBW := Lib.hid (bstep HB2.out hBW)
    have HA3 := Lib.hid (HA2.out.below hBW hwl)
    have HK := Lib.hid hK
    clear hK hBW hA hr hQl b1 b2 b3 b4 b5
    go_wp2_with fail
    refine (known_any _).mono ?_
    rintro e W9 ⟨rfl, hb9⟩
    have hA9 := HA3.out.below hb9 HA3.out.lt
    have f2 : W9.cell? ⟨w.heap.size, 0, none⟩ = some (.bool false) := hA9.cell 0
    have ff2 := hA9.frozen 0
    have HA9 := Lib.hid hA9
    have HK9 := Lib.hid ((hb9.block _ (Array.getElem?_eq_some_iff.1 HK.out).1).trans HK.out)
    have HB9 := Lib.hid (bstep HBW.out hb9)
    clear hA9 hb9
    go_wp2_with fail
    obtain ⟨g1, rf, hbf⟩ := leave1 HA9.out HK9.out HB9.out (Nat.le_refl _) (by omega)
    refine ⟨by simp, .inl ⟨_, _, rfl, run_takeDeferred g1, ?_⟩⟩
    exact ⟨.bool true, by simp [results, Try.results8, go_sem, rf], rfl, hbf⟩
  case stop =>
    rintro D c pre W hD hpre hx
    exact absurd hpre hx
end Go.Proofs.Ytmimfhjmhlmibaa
