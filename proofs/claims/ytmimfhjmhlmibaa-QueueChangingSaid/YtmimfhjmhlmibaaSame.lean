/- The walk of same. -/
import Derived.Test.YtmimfhjmhlmibaaLoop
namespace Go.Proofs.Ytmimfhjmhlmibaa
open Go.RowKit Go.MapKept Go.ChangeMaps Go.Shelf
set_option linter.unusedVariables false
attribute [local go_sem ↓] Go.wp_at_zero Go.wp_at_succ
attribute [local go_sem] Oper.semAt_some

/-- what holds between two rounds of same's range -/
def SameI (w : World) (v : Value) (l : List E) (pre : List (ByteArray × Int)) (W : World) : Prop :=
  (((pre <+: pairs l ∧ At W w.heap.size 33 #[v]) ∧ At W (w.heap.size + 1) 4 #[.bool false]) ∧ At W (w.heap.size + 1 + 1) 3 #[.int .i64 (pre.length : Nat)]) ∧ Below w.heap.size w W
theorem sameI_own (w : World) (v : Value) (l : List E) (n : Nat) (hn : w.heap.size ≤ n) : OwnFrom n (SameI w v l) :=
  ((((ownFrom_pure n _).and (ownFrom_at n _ _ (fun _ => #[v]))).and (ownFrom_at n _ _ (fun _ => #[.bool false]))).and (ownFrom_at n _ _ (fun (pre : List (ByteArray × Int)) => #[.int .i64 (pre.length : Nat)]))).and (ownFrom_low hn (Nat.le_refl _))
def sameZ (w : World) (r : Nat) : Prop := r = w.heap.size + 1 ∨ r = w.heap.size + 1 + 1

theorem sameI_step {w W : World} {v : Value} {l : List E} {pre : List (ByteArray × Int)} {x : ByteArray × Int} (h : SameI w v l pre W) (hn : pre ++ [x] <+: pairs l) : SameI w v l (pre ++ [x]) (W.setCell ⟨w.heap.size + 1 + 1, 0, none⟩ (.int .i64 ((pre.length : Int) + 1))) := by
  obtain ⟨⟨⟨⟨hp, i3⟩, i4⟩, i5⟩, hB⟩ := h
  have e : (Value.int .i64 ((pre ++ [x]).length : Nat)) = .int .i64 ((pre.length : Int) + 1) := by rw [List.length_append]; simp
  have i5' := i5.set 0 (.int .i64 ((pre.length : Int) + 1))
  simp at i5'
  refine ⟨⟨⟨⟨hn, i3.far (p := ⟨_, _, _⟩) (by show w.heap.size ≠ w.heap.size + 1 + 1; omega) _⟩, i4.far (p := ⟨_, _, _⟩) (by show w.heap.size + 1 ≠ w.heap.size + 1 + 1; omega) _⟩, ?_⟩, hB.setCell (p := ⟨w.heap.size + 1 + 1, 0, none⟩) (by show w.heap.size ≤ w.heap.size + 1 + 1; omega) _⟩
  rw [e]
  exact i5'

theorem first_nil {l : List E} (h : l.length = 0) : firstOf l = .returned (.tuple #[.string ⟨#[]⟩, .int .i64 0, .bool false]) := by
  obtain rfl := List.length_eq_zero_iff.1 h
  rfl
theorem first_cons {l : List E} (h : 0 < l.length) : firstOf l = .returned (.tuple #[.string l[0].id, .int .i64 l[0].v, .bool true]) := by
  cases l with
  | nil => simp at h
  | cons x l => rfl
/-- what holds behind the range -/
def Later (w : World) (D : Nat) (Av : Option Addr) (l : List E) (cv : Nat) (W : World) : Prop :=
  At W w.heap.size 33 #[.slice Av l.length cv] ∧ At W (w.heap.size + 1) 4 #[.bool false] ∧ W.heap[D]? = some (.deferred (some [])) ∧ Below w.heap.size w W
theorem Later.below {w : World} {D : Nat} {Av : Option Addr} {l : List E} {cv : Nat} {W W' : World} (h : Later w D Av l cv W) (hb : Below W.heap.size W W') : Later w D Av l cv W' :=
  ⟨h.1.below hb h.1.lt, h.2.1.below hb h.2.1.lt, (hb.block _ (Array.getElem?_eq_some_iff.1 h.2.2.1).1).trans h.2.2.1, h.2.2.2.trans (hb.mono h.2.2.2.size)⟩

theorem Later.leave {w : World} {D : Nat} {Av : Option Addr} {l : List E} {cv : Nat} {W : World} (h : Later w D Av l cv W) (hD : w.heap.size ≤ D) :
    (W.setCell ⟨w.heap.size + 1, 0, none⟩ (.bool true)).heap[D]? = some (.deferred (some [])) ∧
    ((W.setCell ⟨w.heap.size + 1, 0, none⟩ (.bool true)).putObj D (.deferred none)).cell? ⟨w.heap.size + 1, 0, none⟩ = some (.bool true) ∧
    Below w.heap.size w ((W.setCell ⟨w.heap.size + 1, 0, none⟩ (.bool true)).putObj D (.deferred none)) := by
  obtain ⟨h1, h2, h3, h4⟩ := h
  have hne : w.heap.size + 1 ≠ D := fun e => by
    rw [← e, show W.heap[w.heap.size + 1]? = _ from h2] at h3
    cases h3
  have hk : (W.setCell ⟨w.heap.size + 1, 0, none⟩ (.bool true)).heap[D]? = some (.deferred (some [])) := (Below.heap_setCell W ⟨w.heap.size + 1, 0, none⟩ _ D (Ne.symm hne)).trans h3
  have h5 := h2.set 0 (.bool true)
  simp at h5
  have h6 : At ((W.setCell ⟨w.heap.size + 1, 0, none⟩ (.bool true)).putObj D (.deferred none)) (w.heap.size + 1) 4 #[.bool true] := (World.putObj_heap_other hne).trans h5
  exact ⟨hk, h6.cell 0, (h4.setCell (p := ⟨w.heap.size + 1, 0, none⟩) (Nat.le_succ _) _).trans (belowK_b (w := w) (Nat.le_refl _) _ D _ _ hD hk rfl rfl)⟩

set_option maxRecDepth 100000 in
set_option maxHeartbeats 8000000 in
theorem same_any (q g m1 m2 : Nat) (v : Value) (l : List E) (w : World) (h : Both w q g m1 m2 v l) (hl : l.length ≤ 60000) :
    Calls Try.prog 28 #[.pointer (some ⟨q, 0, none⟩), v] w fun e w' => e = .returned (.bool true) ∧ Below w.heap.size w w' := by
  obtain ⟨Av, gv, cv, rfl, hgv, hAv, hrv, hcv⟩ := h.rl.form2 h.qu.qlt
  have HQ := Lib.hid h.qu
  have HAv := Lib.hid hAv
  have HRv := Lib.hid hrv
  clear h hAv hrv
  have hB0 : Below w.heap.size w ((w.alloc (.cells #[.slice Av l.length cv] 33)).alloc (.cells #[.bool false] 4)) := ((Below.refl _ _).alloc (Nat.le_refl _) _).alloc (by simp) _
  have a3 := (At.new w 33 #[.slice Av l.length cv]).alloc (.cells #[.bool false] 4)
  have a4 := At.new (w.alloc (.cells #[.slice Av l.length cv] 33)) 4 #[.bool false]
  rw [World.size_alloc] at a4
  have hsz : ((w.alloc (.cells #[.slice Av l.length cv] 33)).alloc (.cells #[.bool false] 4)).heap.size = w.heap.size + 1 + 1 := by simp
  refine (callsIn_wide (n := 5)).1 (callsIn_of_wp_marks Try.func28 rfl trivial ?_ rfl)
  simp only [Try.ntmps28, List.size_toArray, List.length_cons, List.length_nil, Nat.reduceAdd, Nat.reduceSub, Array.replicate_succ, Array.replicate_zero, List.push_toArray, List.append_toArray, List.nil_append, List.cons_append]
  refine wpIn_wide.2 ?_
  go_wp2_with fail
  generalize (w.alloc (.cells #[.slice Av l.length cv] 33)).alloc (.cells #[.bool false] 4) = wr at *
  have c3 : wr.cell? ⟨w.heap.size, 0, none⟩ = some (.slice Av l.length cv) := a3.cell 0
  have hne : (((l.length : Nat) : Int) != ((l.length : Nat) : Int)) = false := by simp
  go_region_held3 (fun w' => w'.cell? ⟨w.heap.size, 0, none⟩ = some (.slice Av l.length cv)) (exact c3)
    (first | (go_at_call 34; refine (len_qu q g m1 m2 l _ (HQ.out.below hB0.drew)).mono ?_; rintro e w' ⟨rfl, rfl⟩))
  go_wp2_with (go_at_call 22; refine (all_any _ _).mono ?_; rintro e w' ⟨rfl, rfl⟩)
  have hB1 : Below w.heap.size w (((wr.alloc (.cells #[.int .i64 0] 3)).alloc (.cells #[.pointer (some ⟨q, 0, none⟩)] 44)).alloc (.cells #[.func (.func 45) #[] #[]] 50)).drew := (((hB0.alloc (by omega) _).alloc (by simp; omega) _).alloc (by simp; omega) _).drew
  have b3 := (((a3.alloc (.cells #[.int .i64 0] 3)).alloc (.cells #[.pointer (some ⟨q, 0, none⟩)] 44)).alloc (.cells #[.func (.func 45) #[] #[]] 50)).drew
  have b4 := (((a4.alloc (.cells #[.int .i64 0] 3)).alloc (.cells #[.pointer (some ⟨q, 0, none⟩)] 44)).alloc (.cells #[.func (.func 45) #[] #[]] 50)).drew
  have b5 := (((At.new wr 3 #[.int .i64 0]).alloc (.cells #[.pointer (some ⟨q, 0, none⟩)] 44)).alloc (.cells #[.func (.func 45) #[] #[]] 50)).drew
  have b6 := ((At.new (wr.alloc (.cells #[.int .i64 0] 3)) 44 #[.pointer (some ⟨q, 0, none⟩)]).alloc (.cells #[.func (.func 45) #[] #[]] 50)).drew
  have b7 := (At.new ((wr.alloc (.cells #[.int .i64 0] 3)).alloc (.cells #[.pointer (some ⟨q, 0, none⟩)] 44)) 50 #[.func (.func 45) #[] #[]]).drew
  have hsl : ((((wr.alloc (.cells #[.int .i64 0] 3)).alloc (.cells #[.pointer (some ⟨q, 0, none⟩)] 44)).alloc (.cells #[.func (.func 45) #[] #[]] 50)).drew).heap.size = w.heap.size + 1 + 1 + 1 + 1 + 1 := by simp [hsz]
  simp only [World.size_alloc, hsz] at b5 b6 b7
  generalize (((wr.alloc (.cells #[.int .i64 0] 3)).alloc (.cells #[.pointer (some ⟨q, 0, none⟩)] 44)).alloc (.cells #[.func (.func 45) #[] #[]] 50)).drew = wl at *
  have hQl := HQ.out.below hB1
  have hqlt := HQ.out.qlt
  obtain ⟨A, cap, hA, hr, hc⟩ := hQl.body
  refine (wpIn_wide (n := 5)).1 ?_
  refine wpIn_rangeFunc_ownH (w := wl) rfl (by omega) (gf := 43) (lb := #[.pointer (some ⟨w.heap.size + 1 + 1 + 1, 0, none⟩), .pointer (some ⟨w.heap.size + 1 + 1 + 1 + 1, 0, none⟩)]) rfl trivial (enters_of Try.func43 (by kernel_rfl) rfl)
    (all_stops 4 (by omega) (Zs (sameZ w)) 0 q g (w.heap.size + 1 + 1 + 1) (w.heap.size + 1 + 1 + 1 + 1) cap A l (.map (some m1)) (.map (some m2)) wl (still_zs _ _) (Nat.zero_le _) (b6.cell 0) (b7.cell 0) hA hr hQl.row hl (fun r z => by rcases z with rfl | rfl <;> omega) (fun z => by rcases z with h | h <;> omega))
    kpz_t kpz_b (Below.refl _ _) (fun _ => rfl) (SameI w (.slice Av l.length cv) l) (fun c pre W => ¬ pre <+: pairs l) (sameI_own w _ l _ (by omega)) (fun c => ownFrom_pure _ _)
    ⟨⟨⟨⟨List.nil_prefix, b3⟩, b4⟩, b5⟩, hB1⟩
    (fun x a' W => a' = { tmps := #[.pointer (some ⟨q, 0, none⟩), .slice Av l.length cv, undef, .pointer (some ⟨w.heap.size, 0, none⟩), .pointer (some ⟨w.heap.size + 1, 0, none⟩), .pointer (some ⟨w.heap.size + 1 + 1, 0, none⟩), .string x.1, .int .i64 x.2, undef, undef, undef, undef, undef, undef, undef, undef, undef, .pointer (some ⟨q, 0, none⟩), .int .i64 (l.length : Nat), .slice Av l.length cv, .int .i64 (l.length : Nat), .bool false, .pointer (some ⟨q, 0, none⟩), .func (.func 43) #[] #[.pointer (some ⟨w.heap.size + 1 + 1 + 1, 0, none⟩), .pointer (some ⟨w.heap.size + 1 + 1 + 1 + 1, 0, none⟩)], .string x.1, .int .i64 x.2, undef, undef, undef, undef, undef, undef, undef, undef, undef, undef, undef, undef, undef, undef, undef, undef, undef, undef, undef, undef, undef, undef, undef, undef, undef, undef, undef, undef, undef, undef, undef, undef, undef, undef, undef, undef, undef, undef, undef, undef, undef, undef, undef, undef, undef, undef, undef, undef, undef, undef, undef, undef, undef, undef, undef, undef, undef, undef, undef, undef, undef, undef, undef, undef, undef, undef, undef, undef, undef, undef, undef, undef, undef, undef, undef, undef, undef, undef, undef, undef, undef, undef, undef, undef, undef, undef, undef, undef, undef, undef, undef, undef, undef, undef, undef, undef, undef, undef, undef, undef, undef, undef, undef, undef, undef, undef, undef, undef, undef, undef, undef, undef, undef, undef, undef, undef, undef, undef, undef, undef, undef, undef, undef, undef, undef, undef, undef, undef, undef, undef, undef, undef], defers := [] }) (fun _ _ _ _ _ _ hs _ _ => hs) ?assign ?body ?done ?stop
  case assign =>
    intro lb pre x W K hi hK
    gi_wp2
    exact hK _ _ (KeepsFrom.refl _ _) (KpZ.refl _ _) hi rfl
  case body =>
    rintro lb pre x a' W hlb hrec ⟨⟨⟨⟨hp, i3⟩, i4⟩, i5⟩, hBW⟩ rfl hlen
    have s3 : W.cell? ⟨w.heap.size, 0, none⟩ = some (.slice Av l.length cv) := i3.cell 0
    have s4 : W.cell? ⟨w.heap.size + 1, 0, none⟩ = some (.bool false) := i4.cell 0
    have s5 : W.cell? ⟨w.heap.size + 1 + 1, 0, none⟩ = some (.int .i64 (pre.length : Nat)) := i5.cell 0
    have f4 := i4.frozen 0
    have f5 := i5.frozen 0
    obtain rfl := HAv.out (by omega)
    obtain ⟨r0, r1, r2, r3⟩ := (HRv.out.below hBW hgv) pre.length hlen
    have d0 : (0 : Int) ≤ (pre.length : Int) := by omega
    have d1 : (pre.length : Int) < (l.length : Int) := by omega
    have HP := Lib.hid hp
    have HI : Hid (SameI w (.slice (some ⟨gv, 0, none⟩) l.length cv) l pre W) := Lib.hid ⟨⟨⟨⟨hp, i3⟩, i4⟩, i5⟩, hBW⟩
    have hlr := pre_len hp
    clear hp i3 i4 i5 hBW hrec
    by_cases h1 : x.1 = l[pre.length].id
    · have h1b : (x.1.toList == l[pre.length].id.toList) = true := by rw [h1]; simp
      by_cases h2 : x.2 = l[pre.length].v
      · have h2b : (x.2 != l[pre.length].v) = false := by rw [h2]; simp
        have HN := Lib.hid (pre_next HP.out hlen h1 h2)
        rw [← h1] at r0
        rw [← h2] at r3
        clear h1 h2 h1b h2b
        gi_wp2
        exact ⟨kf_set _ _ _ _, kpz_set _ _ _ (.inr rfl), sameI_step HI.out HN.out⟩
      · have h2b : (x.2 != l[pre.length].v) = true := by rw [bne_iff_ne]; exact h2
        have HN : Hid (¬ pre ++ [x] <+: pairs l) := Lib.hid (fun h => h2 (pre_get h).2.2)
        rw [← h1] at r0
        clear h1 h1b
        gi_wp2
        exact ⟨kf_set _ _ _ _, HN.out⟩
    · have h1b := toList_ne h1
      have h1c : (x.1.toList != l[pre.length].id.toList) = true := by rw [bne, h1b]; rfl
      have HN : Hid (¬ pre ++ [x] <+: pairs l) := Lib.hid (fun h => h1 (pre_get h).2.1)
      clear h1
      gi_wp2
      exact ⟨kf_set _ _ _ _, HN.out⟩
  case done =>
    rintro D ys W hD rfl ⟨⟨⟨⟨-, i3⟩, i4⟩, i5⟩, hBW⟩ hK
    rw [pairs_length] at i5
    have s3 : W.cell? ⟨w.heap.size, 0, none⟩ = some (.slice Av l.length cv) := i3.cell 0
    have s5 : W.cell? ⟨w.heap.size + 1 + 1, 0, none⟩ = some (.int .i64 (l.length : Nat)) := i5.cell 0
    have HI : Hid (Later w D Av l cv W) := Lib.hid ⟨i3, i4, hK, hBW⟩
    clear i3 i4 i5 hBW hK hA hr hQl b3 b4 b5 b6 b7 hB1 a3 a4 hB0
    go_wp2_with fail
    go_loopw [8] (fun t wr => ∃ k : Nat, k ≤ l.length ∧ t = .int .i64 (k : Int) ∧ Later w D Av l cv wr) (fun t _ => l.length - (intOf t).toNat)
    case atStart => exact ⟨0, Nat.zero_le _, rfl, HI.out⟩
    case round =>
      obtain ⟨k, hk, rfl, hL⟩ := hrel
      have HL := Lib.hid hL
      clear hL s3 s5
      by_cases hlt : k < l.length
      · obtain rfl := HAv.out (by omega)
        have s3 : wr.cell? ⟨w.heap.size, 0, none⟩ = some (.slice (some ⟨gv, 0, none⟩) l.length cv) := HL.out.1.cell 0
        obtain ⟨r0, r1, r2, r3⟩ := (HRv.out.below HL.out.2.2.2 hgv) k hlt
        have d0 : (0 : Int) ≤ (k : Int) := by omega
        have d1 : (k : Int) < (l.length : Int) := by omega
        go_wp2_with fail
        have HQr := Lib.hid (HQ.out.below HL.out.2.2.2)
        refine (get_present q g m1 m2 k l _ l[k] _ HQr.out hl hlt rfl rfl).mono ?_
        rintro e w2 ⟨rfl, hb2⟩
        have HL2 := Lib.hid (HL.out.below hb2)
        clear s3 r0 r1 r2 r3 hb2
        have s3 : w2.cell? ⟨w.heap.size, 0, none⟩ = some (.slice (some ⟨gv, 0, none⟩) l.length cv) := HL2.out.1.cell 0
        obtain ⟨r0, r1, r2, r3⟩ := (HRv.out.below HL2.out.2.2.2 hgv) k hlt
        have s3a : ∀ o, (w2.alloc o).cell? ⟨w.heap.size, 0, none⟩ = some (.slice (some ⟨gv, 0, none⟩) l.length cv) := fun o => (World.cell?_alloc_some w2 _ o (by rw [s3]; rfl)).trans s3
        have r0a : ∀ o, (w2.alloc o).cell? ⟨gv, k * 4, none⟩ = some (.string l[k].id) := fun o => (World.cell?_alloc_some w2 _ o (by rw [r0]; rfl)).trans r0
        go_wp2_with fail
        have hb3 : Below w2.heap.size w2 (w2.alloc (.cells #[.int .i64 l[k].p, .int .i64 l[k].s] 25)) := (Below.refl _ _).alloc (Nat.le_refl _) _
        have HL3 := Lib.hid (HL2.out.below hb3)
        have hkey := At.new w2 25 #[.int .i64 l[k].p, .int .i64 l[k].s]
        refine (position_present q g m1 m2 k l _ l[k] _ (HQ.out.below HL3.out.2.2.2) hl hlt rfl rfl).mono ?_
        rintro e w4 ⟨rfl, hb4⟩
        have HL4 := Lib.hid (HL3.out.below hb4)
        have hkey4 := hkey.below hb4 (by simp)
        clear s3 r0 r1 r2 r3 s3a r0a hkey hb4 hb3
        have s3 : w4.cell? ⟨w.heap.size, 0, none⟩ = some (.slice (some ⟨gv, 0, none⟩) l.length cv) := HL4.out.1.cell 0
        obtain ⟨r0, r1, r2, r3⟩ := (HRv.out.below HL4.out.2.2.2 hgv) k hlt
        have y0 : w4.cell? ⟨w2.heap.size, 0, none⟩ = some (.int .i64 l[k].p) := hkey4.cell 0
        have y1 : w4.cell? ⟨w2.heap.size, 1, none⟩ = some (.int .i64 l[k].s) := hkey4.cell 1
        clear hkey4
        go_wp2_with fail
        go_quiet (fail)
        rename_i nq
        go_wp2_with fail
        have HL5 := Lib.hid (HL4.out.below (below_drewN (Below.refl _ _) nq))
        go_roundw
        case rel => exact ⟨k + 1, by omega, by go_num, HL5.out⟩
        case measure => simp [intOf]; omega
      · obtain rfl : k = l.length := by omega
        have HQr := Lib.hid (HQ.out.below HL.out.2.2.2)
        have s3 : wr.cell? ⟨w.heap.size, 0, none⟩ = some (.slice Av l.length cv) := HL.out.1.cell 0
        go_wp2_with fail
        refine (first_qu q g m1 m2 l _ HQr.out).mono ?_
        rintro e w2 ⟨rfl, hb2⟩
        have HL2 := Lib.hid (HL.out.below hb2)
        clear s3 hb2
        have s3 : w2.cell? ⟨w.heap.size, 0, none⟩ = some (.slice Av l.length cv) := HL2.out.1.cell 0
        have s4 : w2.cell? ⟨w.heap.size + 1, 0, none⟩ = some (.bool false) := HL2.out.2.1.cell 0
        have f4 := HL2.out.2.1.frozen 0
        by_cases hz : l.length = 0
        · rw [first_nil hz]
          have hd1 : decide (0 < l.length) = false := decide_eq_false (by omega)
          have hd2 : ¬ 0 < l.length := by omega
          clear hz
          go_wp2_with fail
          obtain ⟨hk', rf, hbf⟩ := HL2.out.leave (by omega)
          refine ⟨by simp, .inl ⟨_, _, rfl, run_takeDeferred hk', ?_⟩⟩
          exact ⟨.bool true, by simp [results, Try.results28, go_sem, rf], rfl, hbf⟩
        · rw [first_cons (by omega)]
          obtain rfl := HAv.out (by omega)
          have h0 : 0 < l.length := by omega
          obtain ⟨r0, r1, r2, r3⟩ := (HRv.out.below HL2.out.2.2.2 hgv) 0 h0
          rw [Nat.zero_mul] at r0 r1 r2 r3
          rw [Nat.zero_add] at r1 r2 r3
          have hd1 : decide (0 < l.length) = true := by simpa using h0
          have d1 : (0 : Int) < (l.length : Int) := by omega
          go_wp2_with fail
          obtain ⟨hk', rf, hbf⟩ := HL2.out.leave (by omega)
          refine ⟨by simp, .inl ⟨_, _, rfl, run_takeDeferred hk', ?_⟩⟩
          exact ⟨.bool true, by simp [results, Try.results28, go_sem, rf], rfl, hbf⟩
  case stop => 
    rintro D c pre W hD hpre hx
    exact absurd hpre hx
end Go.Proofs.Ytmimfhjmhlmibaa
