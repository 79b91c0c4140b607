/- The walk of the law QueueStable. -/
import Derived.Test.YtmimfhjmhlmibaaLawFifo
import Derived.Test.YtmimfhjmhlmibaaSteady
import Derived.Sort.BigQuietIn
import Derived.Sort.CutIn
import Derived.Test.YtmimfhjmhlmibaaRound
namespace Go.Proofs.Ytmimfhjmhlmibaa
open Go.RowKit Go.MapKept Go.ChangeMaps Go.Shelf
set_option linter.unusedVariables false
attribute [local go_sem ↓] Go.wp_at_zero Go.wp_at_succ
attribute [local go_sem] Oper.semAt_some

/-- Get, on any identifier -/
def Got (i : ByteArray) (l : List E) (w : World) (e : Ending) (w' : World) : Prop := ∃ (b : Bool) (v p s : Int), e = .returned (.tuple #[.int .i64 v, .agg #[.int .i64 p, .int .i64 s], .bool b]) ∧ (b = true → ∃ f ∈ l, f.id = i ∧ f.s = s) ∧ Below w.heap.size w w'
theorem get_any (q g m1 m2 : Nat) (l : List E) (i : ByteArray) (w : World) (h : Qu w q g m1 m2 l) (hl : l.length ≤ 60000) :
    Calls Try.prog 29 #[.pointer (some ⟨q, 0, none⟩), .string i] w (Got i l w) := by
  by_cases hin : ∃ k, ∃ hk : k < l.length, l[k].id = i
  · obtain ⟨k, hk, hi⟩ := hin
    exact (get_present q g m1 m2 k l i l[k] w h hl hk rfl hi).mono fun e w' ⟨h1, h2⟩ => ⟨true, _, _, _, h1, fun _ => ⟨l[k], List.getElem_mem hk, hi, rfl⟩, h2⟩
  · exact (get_absent q g m1 m2 l i w h hl (not_in hin)).mono fun e w' ⟨h1, h2⟩ => ⟨false, 0, 0, 0, h1, fun h => (by cases h), h2⟩
theorem At.kept {Z : Nat → Prop} {w w' : World} {a : Nat} {t : TypeId} {cs : Array Value} (h : At w a t cs) (hk : Keep Z w w') (hz : ¬ Z a) : At w' a t cs := (hk.block a hz h.lt).trans h

/-- what holds between two rounds of QueueStable's range -/
def StabI (B : Nat) (w7 : World) (i : ByteArray) (l l2 : List E) (pre : List (ByteArray × Int)) (W : World) : Prop := ∃ n : Nat,
  ((n ≤ l.length ∧ (pre <+: pairs l2 → Sync i l l2 n pre.length)) ∧ At W B 3 #[.int .i64 (n : Nat)]) ∧ Below B w7 W
theorem stabI_own (B : Nat) (w7 : World) (i : ByteArray) (l l2 : List E) (n : Nat) (hn : B ≤ n) (hB : B ≤ w7.heap.size) : OwnFrom n (StabI B w7 i l l2) :=
  ownFrom_ex fun c => ((ownFrom_pure n _).and (ownFrom_at n _ _ (fun _ => #[.int .i64 (c : Nat)]))).and (ownFrom_low hn hB)
def stabZ (w : World) (B : Nat) (r : Nat) : Prop := r = w.heap.size + 1 ∨ r = B
theorem stab_round {i : ByteArray} {l l2 : List E} {pre : List (ByteArray × Int)} {y : ByteArray × Int} {n : Nat} (he : off i l = off i l2) (hs : pre <+: pairs l2 → Sync i l l2 n pre.length) (hy : y.1 ≠ i) (hn : n ≤ l.length) (hx : ∀ hn : n < l.length, l[n].id ≠ i)
    (hp : pre ++ [y] <+: pairs l2) : ∃ hn : n < l.length, l[n].id = y.1 ∧ Sync i l l2 (n + 1) (pre ++ [y]).length := by
  obtain ⟨hk, h1, h2⟩ := pre_get hp
  have := sync_step he (hs ((List.prefix_append _ _).trans hp)) hk (by rw [← h1]; exact hy) hn hx
  rw [List.length_append, h1]
  exact this
theorem next_ne {l : List E} (hg : Good l) {n : Nat} {i : ByteArray} (hn : n < l.length) (h : l[n].id = i) (h2 : n + 1 < l.length) : l[n + 1].id ≠ i := fun h3 => by
  have := (List.getElem_inj (h₀ := by rw [List.length_map]; exact hn) (h₁ := by rw [List.length_map]; exact h2) hg.ids).1 (by simpa using h.trans h3.symm)
  omega
theorem stab_end {B C : Nat} {w w7 W W2 : World} {i : ByteArray} {l l2 : List E} {pre : List (ByteArray × Int)} {y : ByteArray × Int} {n : Nat} {u : Value} (hb : KeepsFrom C W W2) (hz : KpZ (Zs (stabZ w B)) W W2) (h15 : At W2 B 3 #[u]) (hB : Below B w7 W2) (hn : n + 1 ≤ l.length)
    (hs : pre ++ [y] <+: pairs l2 → Sync i l l2 (n + 1) (pre ++ [y]).length) :
    KeepsFrom C W (W2.setCell ⟨B, 0, none⟩ (.int .i64 ((n : Int) + 1))) ∧ KpZ (Zs (stabZ w B)) W (W2.setCell ⟨B, 0, none⟩ (.int .i64 ((n : Int) + 1))) ∧ StabI B w7 i l l2 (pre ++ [y]) (W2.setCell ⟨B, 0, none⟩ (.int .i64 ((n : Int) + 1))) := by
  have h16 := h15.set 0 (.int .i64 ((n : Int) + 1))
  simp at h16
  exact ⟨hb.trans (kf_set _ _ _ _), hz.trans (kpz_set _ _ _ (.inr rfl)), n + 1, ⟨⟨hn, hs⟩, by rw [show ((n + 1 : Nat) : Int) = (n : Int) + 1 by omega]; exact h16⟩, hB.setCell (p := ⟨B, 0, none⟩) (Nat.le_refl _) _⟩

set_option maxRecDepth 100000 in
set_option maxHeartbeats 16000000 in
theorem queueStable_walk (S : Value) (os : List (Int × E)) (k : Int) (x : E) (hk : 0 ≤ k ∧ k ≤ 255) (w : World) (h : OL w S os) :
    Calls Try.prog 9 #[S, .agg #[.int .u8 k, .string x.id, .int .i64 x.p, .int .i64 x.s, .int .i64 x.v]] w fun e w' => e = .returned (.bool true) ∧ Below w.heap.size w w' := by
  have H := Lib.hid h
  obtain ⟨SA, sn, sc, rfl⟩ : ∃ A n c, S = .slice A n c := by
    rcases h with ⟨A, cap, rfl, _⟩ | ⟨b, off, cap, rfl, _⟩
    · exact ⟨_, _, _, rfl⟩
    · exact ⟨_, _, _, rfl⟩
  clear h
  have hB0 : Below w.heap.size w ((w.alloc (.cells #[.int .u8 k, .string x.id, .int .i64 x.p, .int .i64 x.s, .int .i64 x.v] 35)).alloc (.cells #[.bool false] 4)) := ((Below.refl _ _).alloc (Nat.le_refl _) _).alloc (by simp) _
  have a3 := (At.new w 35 #[.int .u8 k, .string x.id, .int .i64 x.p, .int .i64 x.s, .int .i64 x.v]).alloc (.cells #[.bool false] 4)
  have a4 := At.new (w.alloc (.cells #[.int .u8 k, .string x.id, .int .i64 x.p, .int .i64 x.s, .int .i64 x.v] 35)) 4 #[.bool false]
  rw [World.size_alloc] at a4
  refine (callsIn_wide (n := 5)).1 (callsIn_of_wp_marks Try.func9 rfl trivial ?_ rfl)
  simp only [Try.ntmps9, List.size_toArray, List.length_cons, List.length_nil, Nat.reduceAdd, Nat.reduceSub, Array.replicate_succ, Array.replicate_zero, List.push_toArray, List.append_toArray, List.nil_append, List.cons_append]
  refine wpIn_wide.2 ?_
  go_wp2_with fail
  refine (known_any _).mono ?_
  rintro e w0 ⟨rfl, hb0⟩
  have hB1 := bstep hB0 hb0
  have b3 := a3.below hb0 a3.lt
  have b4 := a4.below hb0 a4.lt
  clear a3 a4 hB0 hb0
  go_wp2_with fail
  refine (build_any _ os w0 (H.out.below hB1)).mono ?_
  rintro e w1 ⟨q, v, rfl, hbo⟩
  have hlf := length_foldP os [] 60
  simp only [List.length_nil] at hlf
  generalize foldP 60 os [] = L at *
  have hlq := hbo
  obtain ⟨g, m1, m2, hbb, hz, hv, hb1, hs1⟩ := hbo
  have hB2 := bstep hB1 hb1
  have c3 := b3.below hb1 b3.lt
  have c4 := b4.below hb1 b4.lt
  have z3 : ¬ ZQ q g m1 m2 w.heap.size := fun z => by have := hz _ z; have := b3.lt; omega
  have z4 : ¬ ZQ q g m1 m2 (w.heap.size + 1) := fun z => by have := hz _ z; have := b4.lt; omega
  have hw0 := b4.lt
  obtain ⟨Av, gv, cv, rfl, -, -, -, -⟩ := hbb.rl.form2 hbb.qu.qlt
  have i1 : w1.cell? ⟨w.heap.size, 1, none⟩ = some (.string x.id) := c3.cell 1
  have i1a : ∀ o, (w1.alloc o).cell? ⟨w.heap.size, 1, none⟩ = some (.string x.id) := fun o => (World.cell?_alloc_some w1 _ o (by rw [i1]; rfl)).trans i1
  have hx2 : Below w1.heap.size w1 (w1.alloc (.cells #[.slice Av L.length cv] 33)) := (Below.refl _ _).alloc (Nat.le_refl _) _
  have d6 := At.new w1 33 #[.slice Av L.length cv]
  have z6 : ¬ ZQ q g m1 m2 w1.heap.size := fun z => by have := hbb.qu.zlt _ z; omega
  have d3 := c3.below hx2 c3.lt
  have d4 := c4.below hx2 c4.lt
  have hbb2 : Both (w1.alloc (.cells #[.slice Av L.length cv] 33)) q g m1 m2 (.slice Av L.length cv) L := ⟨hbb.qu.below hx2, hbb.rl.below hx2, hbb.off⟩
  have hB3 := bstep hB2 hx2
  have HG := Lib.hid (get_any q g m1 m2 L x.id _ hbb2.qu (by omega))
  have HBB := Lib.hid hbb2
  have HD3 := Lib.hid d3
  have HD4 := Lib.hid d4
  have HD6 := Lib.hid d6
  have HB3 := Lib.hid hB3
  clear b3 b4 hB1 hb1 hbb hlq c3 c4 hB2 hx2 d3 d4 d6 hbb2 hB3
  go_wp2_with fail
  refine HG.out.mono ?_
  rintro e w3 ⟨b, v0, p0, s0, rfl, hbs, hb3⟩
  clear i1 i1a
  have e3 := HD3.out.below hb3 HD3.out.lt
  have e4 := HD4.out.below hb3 HD4.out.lt
  have e6 := HD6.out.below hb3 HD6.out.lt
  have hw1 : w1.heap.size < w3.heap.size := e6.lt
  have hx4 : Below w3.heap.size w3 (w3.alloc (.cells #[.int .i64 p0, .int .i64 s0] 25)) := (Below.refl _ _).alloc (Nat.le_refl _) _
  have f3 := e3.alloc (.cells #[.int .i64 p0, .int .i64 s0] 25)
  have f4 := e4.alloc (.cells #[.int .i64 p0, .int .i64 s0] 25)
  have f6 := e6.alloc (.cells #[.int .i64 p0, .int .i64 s0] 25)
  have f8 := At.new w3 25 #[.int .i64 p0, .int .i64 s0]
  have hb34 := bstep hb3 hx4
  have hbb4 : Both (w3.alloc (.cells #[.int .i64 p0, .int .i64 s0] 25)) q g m1 m2 (.slice Av L.length cv) L := ⟨HBB.out.qu.below hb34, HBB.out.rl.below hb34, HBB.out.off⟩
  have hB5 := bstep HB3.out hb34
  have z8 : ¬ ZQ q g m1 m2 w3.heap.size := fun z => by have := HBB.out.qu.zlt _ z; have := hb3.size; omega
  have HBS := Lib.hid hbs
  have HD := Lib.hid (do_any q g m1 m2 _ L k x _ hbb4 (by omega) hk.1 hk.2)
  have n0 : (w3.alloc (.cells #[.int .i64 p0, .int .i64 s0] 25)).cell? ⟨w.heap.size, 0, none⟩ = some (.int .u8 k) := f3.cell 0
  have n1 : (w3.alloc (.cells #[.int .i64 p0, .int .i64 s0] 25)).cell? ⟨w.heap.size, 1, none⟩ = some (.string x.id) := f3.cell 1
  have n2 : (w3.alloc (.cells #[.int .i64 p0, .int .i64 s0] 25)).cell? ⟨w.heap.size, 2, none⟩ = some (.int .i64 x.p) := f3.cell 2
  have n3 : (w3.alloc (.cells #[.int .i64 p0, .int .i64 s0] 25)).cell? ⟨w.heap.size, 3, none⟩ = some (.int .i64 x.s) := f3.cell 3
  have n4 : (w3.alloc (.cells #[.int .i64 p0, .int .i64 s0] 25)).cell? ⟨w.heap.size, 4, none⟩ = some (.int .i64 x.v) := f3.cell 4
  have n6 : (w3.alloc (.cells #[.int .i64 p0, .int .i64 s0] 25)).cell? ⟨w1.heap.size, 0, none⟩ = some (.slice Av L.length cv) := f6.cell 0
  have HF3 := Lib.hid f3
  have HF4 := Lib.hid f4
  have HF6 := Lib.hid f6
  have HF8 := Lib.hid f8
  have HBB4 := Lib.hid hbb4
  have HB5 := Lib.hid hB5
  clear e3 e4 e6 hx4 f3 f4 f6 f8 hb34 hbb4 hB5 hbs hb3
  go_wp2_with fail
  refine HD.out.mono ?_
  rintro e w5 ⟨v', g', rfl, hbb5, hg', hv', hk5⟩
  clear n0 n1 n2 n3 n4 n6
  have p3 := HF3.out.kept hk5 z3
  have p4 := HF4.out.kept hk5 z4
  have p6 := HF6.out.kept hk5 z6
  have p8 := HF8.out.kept hk5 z8
  have hrl := HBB4.out.rl.keep hk5 HBB4.out.off
  have hB6 : Below w.heap.size w w5 := HB5.out.trans (hk5.below (by have := HF3.out.lt; omega) (fun r hr h => absurd (hz r h) (by omega)))
  have hoff := off_step k x L
  have hlen2 := length_stepP k x L
  have hseq : ∀ e f : E, e ∈ L → f ∈ stepP k x L → e.id = x.id → f.id = x.id → e.s = f.s := fun e f he hf h1 h2 => seq_step k x HBB4.out.qu.good he hf h1 h2
  generalize stepP k x L = L2 at *
  obtain ⟨hq5, -, -⟩ := hbb5
  have m1' : w5.cell? ⟨w.heap.size, 1, none⟩ = some (.string x.id) := p3.cell 1
  have HG2 := Lib.hid (get_any q g' m1 m2 L2 x.id w5 hq5 (by omega))
  have HP3 := Lib.hid p3
  have HP4 := Lib.hid p4
  have HP6 := Lib.hid p6
  have HP8 := Lib.hid p8
  have HQ5 := Lib.hid hq5
  have HRL := Lib.hid hrl
  have HB6 := Lib.hid hB6
  have HSEQ := Lib.hid hseq
  have HOFF := Lib.hid hoff
  clear p3 p4 p6 p8 hq5 hrl hB6 hseq hoff hv' hk5
  go_wp2_with fail
  refine HG2.out.mono ?_
  rintro e w6 ⟨b', v1, p1, s1, rfl, hbs1, hb6⟩
  clear m1'
  have hs01 : b = true → b' = true → s0 = s1 := fun h1 h2 => by
    obtain ⟨e, he, h3, rfl⟩ := HBS.out h1
    obtain ⟨f, hf, h4, rfl⟩ := hbs1 h2
    exact HSEQ.out e f he hf h3 h4
  have r3 := HP3.out.below hb6 HP3.out.lt
  have r4 := HP4.out.below hb6 HP4.out.lt
  have r6 := HP6.out.below hb6 HP6.out.lt
  have r8 := HP8.out.below hb6 HP8.out.lt
  have hx7 : Below w6.heap.size w6 (w6.alloc (.cells #[.int .i64 p1, .int .i64 s1] 25)) := (Below.refl _ _).alloc (Nat.le_refl _) _
  have t3 := r3.alloc (.cells #[.int .i64 p1, .int .i64 s1] 25)
  have t4 := r4.alloc (.cells #[.int .i64 p1, .int .i64 s1] 25)
  have t6 := r6.alloc (.cells #[.int .i64 p1, .int .i64 s1] 25)
  have t8 := r8.alloc (.cells #[.int .i64 p1, .int .i64 s1] 25)
  have t13 := At.new w6 25 #[.int .i64 p1, .int .i64 s1]
  have hb67 := bstep hb6 hx7
  have hq7 := HQ5.out.below hb67
  have hrl7 := HRL.out.below hb67
  have hB7 := bstep HB6.out hb67
  have y8 : (w6.alloc (.cells #[.int .i64 p1, .int .i64 s1] 25)).cell? ⟨w3.heap.size, 1, none⟩ = some (.int .i64 s0) := t8.cell 1
  have y13 : (w6.alloc (.cells #[.int .i64 p1, .int .i64 s1] 25)).cell? ⟨w6.heap.size, 1, none⟩ = some (.int .i64 s1) := t13.cell 1
  have HT3 := Lib.hid t3
  have HT4 := Lib.hid t4
  have HT6 := Lib.hid t6
  have HQ7 := Lib.hid hq7
  have HRL7 := Lib.hid hrl7
  have HB7 := Lib.hid hB7
  clear r3 r4 r6 r8 hx7 t3 t4 t6 t8 t13 hb67 hq7 hrl7 hB7 hbs1 hb6
  have hgoal : True := trivial
  cases b <;> cases b'
  case true.true =>
    have hne : (s0 != s1) = false := by rw [hs01 rfl rfl]; simp
    clear hs01
    go_wp2_with (go_at_call 22; refine (all_any _ _).mono ?_; rintro e w' ⟨rfl, rfl⟩)
    have hsz : (w6.alloc (.cells #[.int .i64 p1, .int .i64 s1] 25)).heap.size = w6.heap.size + 1 := by simp
    clear y8 y13
    generalize w6.alloc (.cells #[.int .i64 p1, .int .i64 s1] 25) = w7 at *
    have hB3 : Below (w6.heap.size + 1) w7 (((w7.alloc (.cells #[.int .i64 0] 3)).alloc (.cells #[.pointer (some ⟨q, 0, none⟩)] 44)).alloc (.cells #[.func (.func 45) #[] #[]] 50)) := hsz ▸ (((Below.refl w7.heap.size _).alloc (Nat.le_refl _) _).alloc (by simp) _).alloc (by simp; omega) _
    have b15 := ((At.new w7 3 #[.int .i64 0]).alloc (.cells #[.pointer (some ⟨q, 0, none⟩)] 44)).alloc (.cells #[.func (.func 45) #[] #[]] 50)
    have bq := (At.new (w7.alloc (.cells #[.int .i64 0] 3)) 44 #[.pointer (some ⟨q, 0, none⟩)]).alloc (.cells #[.func (.func 45) #[] #[]] 50)
    have bo := At.new ((w7.alloc (.cells #[.int .i64 0] 3)).alloc (.cells #[.pointer (some ⟨q, 0, none⟩)] 44)) 50 #[.func (.func 45) #[] #[]]
    have hsl : (((w7.alloc (.cells #[.int .i64 0] 3)).alloc (.cells #[.pointer (some ⟨q, 0, none⟩)] 44)).alloc (.cells #[.func (.func 45) #[] #[]] 50)).heap.size = w6.heap.size + 1 + 1 + 1 + 1 := by simp [hsz]
    simp only [World.size_alloc, hsz] at b15 bq bo
    generalize (((w7.alloc (.cells #[.int .i64 0] 3)).alloc (.cells #[.pointer (some ⟨q, 0, none⟩)] 44)).alloc (.cells #[.func (.func 45) #[] #[]] 50)) = wl at *
    have hQl := HQ7.out.below (w' := wl) (hsz ▸ hB3)
    obtain ⟨A, cap, hA, hr, hc⟩ := hQl.body
    have l3 := HT3.out.lt
    have l4 := HT4.out.lt
    have l6 := HT6.out.lt
    refine (wpIn_wide (n := 5)).1 ?_
    refine wpIn_rangeFunc_ownH (w := wl) rfl (by omega) (gf := 43) (lb := #[.pointer (some ⟨w6.heap.size + 1 + 1, 0, none⟩), .pointer (some ⟨w6.heap.size + 1 + 1 + 1, 0, none⟩)]) rfl trivial (enters_of Try.func43 (by kernel_rfl) rfl)
      (all_stops 4 (by omega) (Zs (stabZ w (w6.heap.size + 1))) 0 q g' (w6.heap.size + 1 + 1) (w6.heap.size + 1 + 1 + 1) cap A L2 (.map (some m1)) (.map (some m2)) wl (still_zs _ _) (Nat.zero_le _) (bq.cell 0) (bo.cell 0) hA hr hQl.row (by omega) (fun r z => by rcases z with rfl | rfl <;> omega) (fun z => by rcases z with h | h <;> omega))
      kpz_t kpz_b (Below.refl _ _) (fun _ => rfl) (StabI (w6.heap.size + 1) w7 x.id L L2) (fun c pre W => ¬ pre <+: pairs L2) (stabI_own _ _ _ _ _ _ (by omega) (by omega)) (fun c => ownFrom_pure _ _)
      ⟨0, ⟨⟨Nat.zero_le _, fun _ => rfl⟩, b15⟩, hB3⟩
      (fun y a' W => a' = { tmps := #[.slice SA sn sc, .agg #[.int .u8 k, .string x.id, .int .i64 x.p, .int .i64 x.s, .int .i64 x.v], undef, .pointer (some ⟨w.heap.size, 0, none⟩), .pointer (some ⟨w.heap.size + 1, 0, none⟩), .pointer (some ⟨q, 0, none⟩), .pointer (some ⟨w1.heap.size, 0, none⟩), .int .i64 v0, .pointer (some ⟨w3.heap.size, 0, none⟩), .bool true, v', .bool true, .int .i64 v1, .pointer (some ⟨w6.heap.size, 0, none⟩), .bool true, .pointer (some ⟨w6.heap.size + 1, 0, none⟩), .string y.1, .bool true, .bool false, .tuple #[.pointer (some ⟨q, 0, none⟩), .slice Av L.length cv], .slice SA sn sc, .tuple #[.pointer (some ⟨q, 0, none⟩), .slice Av L.length cv], .pointer (some ⟨q, 0, none⟩), .slice Av L.length cv, .pointer (some ⟨q, 0, none⟩), .bool false, .tuple #[.int .i64 v0, .agg #[.int .i64 p0, .int .i64 s0], .bool true], .pointer (some ⟨q, 0, none⟩), .pointer (some ⟨w.heap.size, 1, none⟩), .pointer (some ⟨w.heap.size, 1, none⟩), .string x.id, .tuple #[.int .i64 v0, .agg #[.int .i64 p0, .int .i64 s0], .bool true], .int .i64 v0, .agg #[.int .i64 p0, .int .i64 s0], .bool true, .tuple #[v', .bool true], .pointer (some ⟨q, 0, none⟩), .slice Av L.length cv, .agg #[.int .u8 k, .string x.id, .int .i64 x.p, .int .i64 x.s, .int .i64 x.v], .tuple #[v', .bool true], v', .bool true, .bool true, .bool false, .tuple #[.int .i64 v1, .agg #[.int .i64 p1, .int .i64 s1], .bool true], .pointer (some ⟨q, 0, none⟩), .pointer (some ⟨w.heap.size, 1, none⟩), .pointer (some ⟨w.heap.size, 1, none⟩), .string x.id, .tuple #[.int .i64 v1, .agg #[.int .i64 p1, .int .i64 s1], .bool true], .int .i64 v1, .agg #[.int .i64 p1, .int .i64 s1], .bool true, .bool true, .bool true, .bool true, .bool true, .bool true, .pointer (some ⟨w3.heap.size, 1, none⟩), .int .i64 s0, .pointer (some ⟨w6.heap.size, 1, none⟩), .int .i64 s1, .bool false, .bool false, .pointer (some ⟨q, 0, none⟩), .func (.func 43) #[] #[.pointer (some ⟨w6.heap.size + 1 + 1, 0, none⟩), .pointer (some ⟨w6.heap.size + 1 + 1 + 1, 0, none⟩)], .string y.1, .int .i64 y.2, undef, undef, undef, undef, undef, undef, undef, undef, undef, undef, undef, undef, undef, undef, undef, undef, undef, undef, undef, undef, undef, undef, undef, undef, undef, undef, undef, undef, undef, undef, undef, undef, undef, undef, undef, undef, undef, undef], defers := [] }) (fun _ _ _ _ _ _ hs _ _ => hs) ?assign ?body ?done ?stop
    case assign =>
      intro lb pre x W K hi hK
      gi_wp2
      exact hK _ _ (KeepsFrom.refl _ _) (KpZ.refl _ _) hi rfl
    case body =>
      rintro lb pre y a' W hlb hrec ⟨n, ⟨⟨hn, hs⟩, i15⟩, hBW⟩ rfl hlen
      have hmx : Try.prog.follows .mixedOrders = true := by kernel_rfl
      have hBWs := hBW.size
      have i3 := HT3.out.below hBW (by omega)
      have i4 := HT4.out.below hBW (by omega)
      have i6 := HT6.out.below hBW (by omega)
      have hRW := HRL7.out.below (hsz ▸ hBW)
      obtain ⟨Av', gv, cv', heq, hgv, hAv, hrv, hcv⟩ := hRW.form2 (b := w.heap.size) i3.lt
      obtain ⟨rfl, -, rfl⟩ : Av = Av' ∧ L.length = L.length ∧ cv = cv' := by simpa using heq
      have HRW := Lib.hid hrv
      clear hRW hrv heq hcv
      have c3 : W.cell? ⟨w.heap.size, 1, none⟩ = some (.string x.id) := i3.cell 1
      have c4 : W.cell? ⟨w.heap.size + 1, 0, none⟩ = some (.bool false) := i4.cell 0
      have g4 := i4.frozen 0
      have c6 : W.cell? ⟨w1.heap.size, 0, none⟩ = some (.slice Av L.length cv) := i6.cell 0
      have c15 : W.cell? ⟨w6.heap.size + 1, 0, none⟩ = some (.int .i64 (n : Nat)) := i15.cell 0
      have g15 := i15.frozen 0
      clear i3 i4 i6
      have HI15 := Lib.hid i15
      have HBW := Lib.hid hBW
      have HS := Lib.hid hs
      clear hs i15 hBW hrec
      by_cases h1 : y.1 = x.id
      · have h1b : (y.1.toList == x.id.toList) = true := by rw [h1]; simp
        have HH := Lib.hid h1
        clear h1
        gi_wp2_with fail
        exact ⟨KeepsFrom.refl _ _, KpZ.refl _ _, n, ⟨⟨hn, fun hp => by
          obtain ⟨hk, h2, h3⟩ := pre_get hp
          rw [List.length_append]
          exact sync_skip (HS.out ((List.prefix_append _ _).trans hp)) hk (by rw [← h2]; exact HH.out)⟩, HI15.out⟩, HBW.out⟩
      · have h1b := toList_ne h1
        have HH := Lib.hid h1
        clear h1
        by_cases hn1 : n < L.length
        · obtain rfl := hAv (by omega)
          obtain ⟨r0, -, -, -⟩ := HRW.out n hn1
          have d0 : (0 : Int) ≤ (n : Int) := by omega
          have d1 : (n : Int) < (L.length : Int) := by omega
          clear hAv
          by_cases hL : L[n].id = x.id
          · have hLb : (L[n].id.toList == x.id.toList) = true := by rw [hL]; simp
            have HL := Lib.hid hL
            clear hL
            gi_wp2_with fail
            refine wpIn_region_quiet_round rfl hmx (by kernel_rfl) (by kernel_rfl) ?_
            repeat (gi_big_quiet_step (fail))
            refine wpQuietIn_nil ?_
            rintro W2 ⟨nq, hW2⟩
            have hbq : Below W.heap.size W W2 := hW2 ▸ below_drewN (Below.refl W.heap.size W) nq
            have hBW2 := HBW.out.trans (hbq.mono (by omega))
            have j15 := HI15.out.below hbq HI15.out.lt
            clear hW2 c3 c4 g4 c6 c15 g15
            have i3 := HT3.out.below hBW2 (by omega)
            have i4 := HT4.out.below hBW2 (by omega)
            have i6 := HT6.out.below hBW2 (by omega)
            have c3 : W2.cell? ⟨w.heap.size, 1, none⟩ = some (.string x.id) := i3.cell 1
            have c4 : W2.cell? ⟨w.heap.size + 1, 0, none⟩ = some (.bool false) := i4.cell 0
            have g4 := i4.frozen 0
            have c6 : W2.cell? ⟨w1.heap.size, 0, none⟩ = some (.slice (some ⟨gv, 0, none⟩) L.length cv) := i6.cell 0
            have c15 : W2.cell? ⟨w6.heap.size + 1, 0, none⟩ = some (.int .i64 (n : Nat)) := j15.cell 0
            have g15 := j15.frozen 0
            clear i3 i4 i6
            gi_upto_region 19 with fail
            have hk3 : ∀ C, KeepsFrom C W (W2.setCell ⟨w6.heap.size + 1, 0, none⟩ (.int .i64 ((n : Int) + 1))) := fun C => (kf_below hbq).trans (kf_set _ _ _ _)
            have hz3 : KpZ (Zs (stabZ w (w6.heap.size + 1))) W (W2.setCell ⟨w6.heap.size + 1, 0, none⟩ (.int .i64 ((n : Int) + 1))) := (kpz_below hbq).trans (kpz_set _ _ _ (.inr rfl))
            have hBW3 := hBW2.setCell (p := ⟨w6.heap.size + 1, 0, none⟩) (Nat.le_refl _) (.int .i64 ((n : Int) + 1))
            have hsz3 := hbq.size
            obtain ⟨m, hm⟩ : ∃ m, m = n + 1 := ⟨_, rfl⟩
            have k15 : At (W2.setCell ⟨w6.heap.size + 1, 0, none⟩ (.int .i64 ((n : Int) + 1))) (w6.heap.size + 1) 3 #[.int .i64 (m : Nat)] := by
              have h16 := j15.set 0 (.int .i64 ((n : Int) + 1))
              simp at h16
              rw [show ((m : Nat) : Int) = (n : Int) + 1 by omega]
              exact h16
            have hs3 : pre <+: pairs L2 → Sync x.id L L2 m pre.length := fun hp => by
              subst hm
              exact sync_old (HS.out hp) hn1 HL.out
            have hx3 : ∀ h : m < L.length, L[m].id ≠ x.id := fun h => by
              subst hm
              exact next_ne HBB4.out.qu.good hn1 HL.out h
            have hm2 : m ≤ L.length := by omega
            obtain ⟨Av2, gv2, cv2, heq2, hgv2, hAv2, hrv2, hcv2⟩ := (HRL7.out.below (hsz ▸ hBW3)).form2 (b := w.heap.size) (HT3.out.below hBW3 (by omega)).lt
            obtain rfl : gv = gv2 := by
              have h1 := hAv2 (by omega)
              subst h1
              simp at heq2
              exact heq2.1
            have HRW3 := Lib.hid hrv2
            have HS3 := Lib.hid hs3
            have HX3 := Lib.hid hx3
            clear c3 c4 g4 c6 c15 g15 r0 hrv2 hs3 hx3 heq2 hAv2 d0 d1 hLb hm
            generalize (W2.setCell ⟨w6.heap.size + 1, 0, none⟩ (.int .i64 ((n : Int) + 1))) = W3 at *
            have i3 := HT3.out.below hBW3 (by omega)
            have i4 := HT4.out.below hBW3 (by omega)
            have i6 := HT6.out.below hBW3 (by omega)
            have c3 : W3.cell? ⟨w.heap.size, 1, none⟩ = some (.string x.id) := i3.cell 1
            have c4 : W3.cell? ⟨w.heap.size + 1, 0, none⟩ = some (.bool false) := i4.cell 0
            have g4 := i4.frozen 0
            have c6 : W3.cell? ⟨w1.heap.size, 0, none⟩ = some (.slice (some ⟨gv, 0, none⟩) L.length cv) := i6.cell 0
            have c15 : W3.cell? ⟨w6.heap.size + 1, 0, none⟩ = some (.int .i64 (m : Nat)) := k15.cell 0
            have g15 := k15.frozen 0
            clear i3 i4 i6
            have d0 : (0 : Int) ≤ (m : Int) := by omega
            by_cases hn2 : m < L.length
            · have d1 : (m : Int) < (L.length : Int) := by omega
              obtain ⟨r0, -, -, -⟩ := HRW3.out m hn2
              by_cases hy : L[m].id = y.1
              · have hyb : (L[m].id.toList == y.1.toList) = true := by rw [hy]; simp
                have HY := Lib.hid hy
                clear hy
                gi_wp2_with fail
                exact stab_end (hk3 _) hz3 k15 hBW3 hn2 (fun hp => by
                  obtain ⟨_, _, h3⟩ := stab_round HOFF.out.symm HS3.out HH.out hm2 HX3.out hp
                  exact h3)
              · have hyb := toList_ne hy
                have HY := Lib.hid hy
                clear hy
                gi_wp2_with fail
                exact ⟨(hk3 _).trans (kf_set _ _ _ _), fun hp => by
                  obtain ⟨_, h2, _⟩ := stab_round HOFF.out.symm HS3.out HH.out hm2 HX3.out hp
                  exact HY.out h2⟩
            · have d1 : ¬ (m : Int) < (L.length : Int) := by omega
              gi_wp2_with fail
              exact ⟨(hk3 _).trans (kf_set _ _ _ _), fun hp => by
                obtain ⟨h1, _, _⟩ := stab_round HOFF.out.symm HS3.out HH.out hm2 HX3.out hp
                exact hn2 h1⟩
          · have hLb := toList_ne hL
            have HL := Lib.hid hL
            clear hL
            gi_wp2_with fail
            refine wpIn_region_quiet_round rfl hmx (by kernel_rfl) (by kernel_rfl) ?_
            repeat (gi_big_quiet_step (fail))
            refine wpQuietIn_nil ?_
            rintro W2 ⟨nq, hW2⟩
            have hbq : Below W.heap.size W W2 := hW2 ▸ below_drewN (Below.refl W.heap.size W) nq
            have hBW2 := HBW.out.trans (hbq.mono (by omega))
            have j15 := HI15.out.below hbq HI15.out.lt
            clear hW2 c3 c4 g4 c6 c15 g15
            have i3 := HT3.out.below hBW2 (by omega)
            have i4 := HT4.out.below hBW2 (by omega)
            have i6 := HT6.out.below hBW2 (by omega)
            have c3 : W2.cell? ⟨w.heap.size, 1, none⟩ = some (.string x.id) := i3.cell 1
            have c4 : W2.cell? ⟨w.heap.size + 1, 0, none⟩ = some (.bool false) := i4.cell 0
            have g4 := i4.frozen 0
            have c6 : W2.cell? ⟨w1.heap.size, 0, none⟩ = some (.slice (some ⟨gv, 0, none⟩) L.length cv) := i6.cell 0
            have c15 : W2.cell? ⟨w6.heap.size + 1, 0, none⟩ = some (.int .i64 (n : Nat)) := j15.cell 0
            have g15 := j15.frozen 0
            clear i3 i4 i6
            have HRW2 := Lib.hid (HRW.out.below hbq hgv)
            clear r0
            obtain ⟨r0, -, -, -⟩ := HRW2.out n hn1
            by_cases hy : L[n].id = y.1
            · have hyb : (L[n].id.toList == y.1.toList) = true := by rw [hy]; simp
              have HY := Lib.hid hy
              clear hy
              gi_wp2_with fail
              exact stab_end (kf_below hbq) (kpz_below hbq) j15 hBW2 hn1 (fun hp => by
                obtain ⟨_, _, h3⟩ := stab_round HOFF.out.symm HS.out HH.out hn (fun _ => HL.out) hp
                exact h3)
            · have hyb := toList_ne hy
              have HY := Lib.hid hy
              clear hy
              gi_wp2_with fail
              exact ⟨((kf_below hbq).trans (kf_set _ _ _ _)), fun hp => by
                obtain ⟨_, h2, _⟩ := stab_round HOFF.out.symm HS.out HH.out hn (fun _ => HL.out) hp
                exact HY.out h2⟩
        · have d0 : (0 : Int) ≤ (n : Int) := by omega
          have d1 : ¬ (n : Int) < (L.length : Int) := by omega
          clear hAv
          gi_wp2_with fail
          refine wpIn_region_quiet_round rfl hmx (by kernel_rfl) (by kernel_rfl) ?_
          repeat (gi_big_quiet_step (fail))
          refine wpQuietIn_nil ?_
          rintro W2 ⟨nq, hW2⟩
          have hbq : Below W.heap.size W W2 := hW2 ▸ below_drewN (Below.refl W.heap.size W) nq
          have hBW2 := HBW.out.trans (hbq.mono (by omega))
          have j15 := HI15.out.below hbq HI15.out.lt
          clear hW2 c3 c4 g4 c6 c15 g15
          have i3 := HT3.out.below hBW2 (by omega)
          have i4 := HT4.out.below hBW2 (by omega)
          have i6 := HT6.out.below hBW2 (by omega)
          have c3 : W2.cell? ⟨w.heap.size, 1, none⟩ = some (.string x.id) := i3.cell 1
          have c4 : W2.cell? ⟨w.heap.size + 1, 0, none⟩ = some (.bool false) := i4.cell 0
          have g4 := i4.frozen 0
          have c6 : W2.cell? ⟨w1.heap.size, 0, none⟩ = some (.slice Av L.length cv) := i6.cell 0
          have c15 : W2.cell? ⟨w6.heap.size + 1, 0, none⟩ = some (.int .i64 (n : Nat)) := j15.cell 0
          have g15 := j15.frozen 0
          clear i3 i4 i6
          gi_wp2_with fail
          exact ⟨((kf_below hbq).trans (kf_set _ _ _ _)), fun hp => by
            obtain ⟨h1, _, _⟩ := stab_round HOFF.out.symm HS.out HH.out hn (fun h => absurd h hn1) hp
            exact hn1 h1⟩
    case done =>
      rintro D ys W hD rfl hI hK
      obtain ⟨n, -, hBW⟩ := hI
      have HBW := Lib.hid (bstep HB7.out (hBW.mono (by omega)))
      have HA3 := Lib.hid (HT4.out.below hBW (by omega))
      have HK := Lib.hid hK
      clear hK hBW hA hr hQl b15 bq bo
      go_wp2_with fail
      refine (known_any _).mono ?_
      rintro e W9 ⟨rfl, hb9⟩
      have hA9 := HA3.out.below hb9 HA3.out.lt
      have f2 : W9.cell? ⟨w.heap.size + 1, 0, none⟩ = some (.bool false) := hA9.cell 0
      have ff2 := hA9.frozen 0
      have HA9 := Lib.hid hA9
      have HK9 := Lib.hid ((hb9.block _ (Array.getElem?_eq_some_iff.1 HK.out).1).trans HK.out)
      have HB9 := Lib.hid (bstep HBW.out hb9)
      clear hA9 hb9
      go_wp2_with fail
      obtain ⟨g1, rf, hbf⟩ := leave1 HA9.out HK9.out HB9.out (by omega) (by omega)
      refine ⟨by simp, .inl ⟨_, _, rfl, run_takeDeferred g1, ?_⟩⟩
      exact ⟨.bool true, by simp [results, Try.results9, go_sem, rf], rfl, hbf⟩
    case stop =>
      rintro D c pre W hD hpre hx
      exact absurd hpre hx
  case true.false =>
    clear hs01
    go_wp2_with (go_at_call 22; refine (all_any _ _).mono ?_; rintro e w' ⟨rfl, rfl⟩)
    have hsz : (w6.alloc (.cells #[.int .i64 p1, .int .i64 s1] 25)).heap.size = w6.heap.size + 1 := by simp
    clear y8 y13
    generalize w6.alloc (.cells #[.int .i64 p1, .int .i64 s1] 25) = w7 at *
    have hB3 : Below (w6.heap.size + 1) w7 (((w7.alloc (.cells #[.int .i64 0] 3)).alloc (.cells #[.pointer (some ⟨q, 0, none⟩)] 44)).alloc (.cells #[.func (.func 45) #[] #[]] 50)) := hsz ▸ (((Below.refl w7.heap.size _).alloc (Nat.le_refl _) _).alloc (by simp) _).alloc (by simp; omega) _
    have b15 := ((At.new w7 3 #[.int .i64 0]).alloc (.cells #[.pointer (some ⟨q, 0, none⟩)] 44)).alloc (.cells #[.func (.func 45) #[] #[]] 50)
    have bq := (At.new (w7.alloc (.cells #[.int .i64 0] 3)) 44 #[.pointer (some ⟨q, 0, none⟩)]).alloc (.cells #[.func (.func 45) #[] #[]] 50)
    have bo := At.new ((w7.alloc (.cells #[.int .i64 0] 3)).alloc (.cells #[.pointer (some ⟨q, 0, none⟩)] 44)) 50 #[.func (.func 45) #[] #[]]
    have hsl : (((w7.alloc (.cells #[.int .i64 0] 3)).alloc (.cells #[.pointer (some ⟨q, 0, none⟩)] 44)).alloc (.cells #[.func (.func 45) #[] #[]] 50)).heap.size = w6.heap.size + 1 + 1 + 1 + 1 := by simp [hsz]
    simp only [World.size_alloc, hsz] at b15 bq bo
    generalize (((w7.alloc (.cells #[.int .i64 0] 3)).alloc (.cells #[.pointer (some ⟨q, 0, none⟩)] 44)).alloc (.cells #[.func (.func 45) #[] #[]] 50)) = wl at *
    have hQl := HQ7.out.below (w' := wl) (hsz ▸ hB3)
    obtain ⟨A, cap, hA, hr, hc⟩ := hQl.body
    have l3 := HT3.out.lt
    have l4 := HT4.out.lt
    have l6 := HT6.out.lt
    refine (wpIn_wide (n := 5)).1 ?_
    refine wpIn_rangeFunc_ownH (w := wl) rfl (by omega) (gf := 43) (lb := #[.pointer (some ⟨w6.heap.size + 1 + 1, 0, none⟩), .pointer (some ⟨w6.heap.size + 1 + 1 + 1, 0, none⟩)]) rfl trivial (enters_of Try.func43 (by kernel_rfl) rfl)
      (all_stops 4 (by omega) (Zs (stabZ w (w6.heap.size + 1))) 0 q g' (w6.heap.size + 1 + 1) (w6.heap.size + 1 + 1 + 1) cap A L2 (.map (some m1)) (.map (some m2)) wl (still_zs _ _) (Nat.zero_le _) (bq.cell 0) (bo.cell 0) hA hr hQl.row (by omega) (fun r z => by rcases z with rfl | rfl <;> omega) (fun z => by rcases z with h | h <;> omega))
      kpz_t kpz_b (Below.refl _ _) (fun _ => rfl) (StabI (w6.heap.size + 1) w7 x.id L L2) (fun c pre W => ¬ pre <+: pairs L2) (stabI_own _ _ _ _ _ _ (by omega) (by omega)) (fun c => ownFrom_pure _ _)
      ⟨0, ⟨⟨Nat.zero_le _, fun _ => rfl⟩, b15⟩, hB3⟩
      (fun y a' W => a' = { tmps := #[.slice SA sn sc, .agg #[.int .u8 k, .string x.id, .int .i64 x.p, .int .i64 x.s, .int .i64 x.v], undef, .pointer (some ⟨w.heap.size, 0, none⟩), .pointer (some ⟨w.heap.size + 1, 0, none⟩), .pointer (some ⟨q, 0, none⟩), .pointer (some ⟨w1.heap.size, 0, none⟩), .int .i64 v0, .pointer (some ⟨w3.heap.size, 0, none⟩), .bool true, v', .bool true, .int .i64 v1, .pointer (some ⟨w6.heap.size, 0, none⟩), .bool false, .pointer (some ⟨w6.heap.size + 1, 0, none⟩), .string y.1, .bool true, .bool false, .tuple #[.pointer (some ⟨q, 0, none⟩), .slice Av L.length cv], .slice SA sn sc, .tuple #[.pointer (some ⟨q, 0, none⟩), .slice Av L.length cv], .pointer (some ⟨q, 0, none⟩), .slice Av L.length cv, .pointer (some ⟨q, 0, none⟩), .bool false, .tuple #[.int .i64 v0, .agg #[.int .i64 p0, .int .i64 s0], .bool true], .pointer (some ⟨q, 0, none⟩), .pointer (some ⟨w.heap.size, 1, none⟩), .pointer (some ⟨w.heap.size, 1, none⟩), .string x.id, .tuple #[.int .i64 v0, .agg #[.int .i64 p0, .int .i64 s0], .bool true], .int .i64 v0, .agg #[.int .i64 p0, .int .i64 s0], .bool true, .tuple #[v', .bool true], .pointer (some ⟨q, 0, none⟩), .slice Av L.length cv, .agg #[.int .u8 k, .string x.id, .int .i64 x.p, .int .i64 x.s, .int .i64 x.v], .tuple #[v', .bool true], v', .bool true, .bool true, .bool false, .tuple #[.int .i64 v1, .agg #[.int .i64 p1, .int .i64 s1], .bool false], .pointer (some ⟨q, 0, none⟩), .pointer (some ⟨w.heap.size, 1, none⟩), .pointer (some ⟨w.heap.size, 1, none⟩), .string x.id, .tuple #[.int .i64 v1, .agg #[.int .i64 p1, .int .i64 s1], .bool false], .int .i64 v1, .agg #[.int .i64 p1, .int .i64 s1], .bool false, .bool true, .bool true, .bool false, .bool false, .bool false, undef, undef, undef, undef, undef, .bool false, .pointer (some ⟨q, 0, none⟩), .func (.func 43) #[] #[.pointer (some ⟨w6.heap.size + 1 + 1, 0, none⟩), .pointer (some ⟨w6.heap.size + 1 + 1 + 1, 0, none⟩)], .string y.1, .int .i64 y.2, undef, undef, undef, undef, undef, undef, undef, undef, undef, undef, undef, undef, undef, undef, undef, undef, undef, undef, undef, undef, undef, undef, undef, undef, undef, undef, undef, undef, undef, undef, undef, undef, undef, undef, undef, undef, undef, undef], defers := [] }) (fun _ _ _ _ _ _ hs _ _ => hs) ?assign ?body ?done ?stop
    case assign =>
      intro lb pre x W K hi hK
      gi_wp2
      exact hK _ _ (KeepsFrom.refl _ _) (KpZ.refl _ _) hi rfl
    case body =>
      rintro lb pre y a' W hlb hrec ⟨n, ⟨⟨hn, hs⟩, i15⟩, hBW⟩ rfl hlen
      have hmx : Try.prog.follows .mixedOrders = true := by kernel_rfl
      have hBWs := hBW.size
      have i3 := HT3.out.below hBW (by omega)
      have i4 := HT4.out.below hBW (by omega)
      have i6 := HT6.out.below hBW (by omega)
      have hRW := HRL7.out.below (hsz ▸ hBW)
      obtain ⟨Av', gv, cv', heq, hgv, hAv, hrv, hcv⟩ := hRW.form2 (b := w.heap.size) i3.lt
      obtain ⟨rfl, -, rfl⟩ : Av = Av' ∧ L.length = L.length ∧ cv = cv' := by simpa using heq
      have HRW := Lib.hid hrv
      clear hRW hrv heq hcv
      have c3 : W.cell? ⟨w.heap.size, 1, none⟩ = some (.string x.id) := i3.cell 1
      have c4 : W.cell? ⟨w.heap.size + 1, 0, none⟩ = some (.bool false) := i4.cell 0
      have g4 := i4.frozen 0
      have c6 : W.cell? ⟨w1.heap.size, 0, none⟩ = some (.slice Av L.length cv) := i6.cell 0
      have c15 : W.cell? ⟨w6.heap.size + 1, 0, none⟩ = some (.int .i64 (n : Nat)) := i15.cell 0
      have g15 := i15.frozen 0
      clear i3 i4 i6
      have HI15 := Lib.hid i15
      have HBW := Lib.hid hBW
      have HS := Lib.hid hs
      clear hs i15 hBW hrec
      by_cases h1 : y.1 = x.id
      · have h1b : (y.1.toList == x.id.toList) = true := by rw [h1]; simp
        have HH := Lib.hid h1
        clear h1
        gi_wp2_with fail
        exact ⟨KeepsFrom.refl _ _, KpZ.refl _ _, n, ⟨⟨hn, fun hp => by
          obtain ⟨hk, h2, h3⟩ := pre_get hp
          rw [List.length_append]
          exact sync_skip (HS.out ((List.prefix_append _ _).trans hp)) hk (by rw [← h2]; exact HH.out)⟩, HI15.out⟩, HBW.out⟩
      · have h1b := toList_ne h1
        have HH := Lib.hid h1
        clear h1
        by_cases hn1 : n < L.length
        · obtain rfl := hAv (by omega)
          obtain ⟨r0, -, -, -⟩ := HRW.out n hn1
          have d0 : (0 : Int) ≤ (n : Int) := by omega
          have d1 : (n : Int) < (L.length : Int) := by omega
          clear hAv
          by_cases hL : L[n].id = x.id
          · have hLb : (L[n].id.toList == x.id.toList) = true := by rw [hL]; simp
            have HL := Lib.hid hL
            clear hL
            gi_wp2_with fail
            refine wpIn_region_quiet_round rfl hmx (by kernel_rfl) (by kernel_rfl) ?_
            repeat (gi_big_quiet_step (fail))
            refine wpQuietIn_nil ?_
            rintro W2 ⟨nq, hW2⟩
            have hbq : Below W.heap.size W W2 := hW2 ▸ below_drewN (Below.refl W.heap.size W) nq
            have hBW2 := HBW.out.trans (hbq.mono (by omega))
            have j15 := HI15.out.below hbq HI15.out.lt
            clear hW2 c3 c4 g4 c6 c15 g15
            have i3 := HT3.out.below hBW2 (by omega)
            have i4 := HT4.out.below hBW2 (by omega)
            have i6 := HT6.out.below hBW2 (by omega)
            have c3 : W2.cell? ⟨w.heap.size, 1, none⟩ = some (.string x.id) := i3.cell 1
            have c4 : W2.cell? ⟨w.heap.size + 1, 0, none⟩ = some (.bool false) := i4.cell 0
            have g4 := i4.frozen 0
            have c6 : W2.cell? ⟨w1.heap.size, 0, none⟩ = some (.slice (some ⟨gv, 0, none⟩) L.length cv) := i6.cell 0
            have c15 : W2.cell? ⟨w6.heap.size + 1, 0, none⟩ = some (.int .i64 (n : Nat)) := j15.cell 0
            have g15 := j15.frozen 0
            clear i3 i4 i6
            gi_upto_region 19 with fail
            have hk3 : ∀ C, KeepsFrom C W (W2.setCell ⟨w6.heap.size + 1, 0, none⟩ (.int .i64 ((n : Int) + 1))) := fun C => (kf_below hbq).trans (kf_set _ _ _ _)
            have hz3 : KpZ (Zs (stabZ w (w6.heap.size + 1))) W (W2.setCell ⟨w6.heap.size + 1, 0, none⟩ (.int .i64 ((n : Int) + 1))) := (kpz_below hbq).trans (kpz_set _ _ _ (.inr rfl))
            have hBW3 := hBW2.setCell (p := ⟨w6.heap.size + 1, 0, none⟩) (Nat.le_refl _) (.int .i64 ((n : Int) + 1))
            have hsz3 := hbq.size
            obtain ⟨m, hm⟩ : ∃ m, m = n + 1 := ⟨_, rfl⟩
            have k15 : At (W2.setCell ⟨w6.heap.size + 1, 0, none⟩ (.int .i64 ((n : Int) + 1))) (w6.heap.size + 1) 3 #[.int .i64 (m : Nat)] := by
              have h16 := j15.set 0 (.int .i64 ((n : Int) + 1))
              simp at h16
              rw [show ((m : Nat) : Int) = (n : Int) + 1 by omega]
              exact h16
            have hs3 : pre <+: pairs L2 → Sync x.id L L2 m pre.length := fun hp => by
              subst hm
              exact sync_old (HS.out hp) hn1 HL.out
            have hx3 : ∀ h : m < L.length, L[m].id ≠ x.id := fun h => by
              subst hm
              exact next_ne HBB4.out.qu.good hn1 HL.out h
            have hm2 : m ≤ L.length := by omega
            obtain ⟨Av2, gv2, cv2, heq2, hgv2, hAv2, hrv2, hcv2⟩ := (HRL7.out.below (hsz ▸ hBW3)).form2 (b := w.heap.size) (HT3.out.below hBW3 (by omega)).lt
            obtain rfl : gv = gv2 := by
              have h1 := hAv2 (by omega)
              subst h1
              simp at heq2
              exact heq2.1
            have HRW3 := Lib.hid hrv2
            have HS3 := Lib.hid hs3
            have HX3 := Lib.hid hx3
            clear c3 c4 g4 c6 c15 g15 r0 hrv2 hs3 hx3 heq2 hAv2 d0 d1 hLb hm
            generalize (W2.setCell ⟨w6.heap.size + 1, 0, none⟩ (.int .i64 ((n : Int) + 1))) = W3 at *
            have i3 := HT3.out.below hBW3 (by omega)
            have i4 := HT4.out.below hBW3 (by omega)
            have i6 := HT6.out.below hBW3 (by omega)
            have c3 : W3.cell? ⟨w.heap.size, 1, none⟩ = some (.string x.id) := i3.cell 1
            have c4 : W3.cell? ⟨w.heap.size + 1, 0, none⟩ = some (.bool false) := i4.cell 0
            have g4 := i4.frozen 0
            have c6 : W3.cell? ⟨w1.heap.size, 0, none⟩ = some (.slice (some ⟨gv, 0, none⟩) L.length cv) := i6.cell 0
            have c15 : W3.cell? ⟨w6.heap.size + 1, 0, none⟩ = some (.int .i64 (m : Nat)) := k15.cell 0
            have g15 := k15.frozen 0
            clear i3 i4 i6
            have d0 : (0 : Int) ≤ (m : Int) := by omega
            by_cases hn2 : m < L.length
            · have d1 : (m : Int) < (L.length : Int) := by omega
              obtain ⟨r0, -, -, -⟩ := HRW3.out m hn2
              by_cases hy : L[m].id = y.1
              · have hyb : (L[m].id.toList == y.1.toList) = true := by rw [hy]; simp
                have HY := Lib.hid hy
                clear hy
                gi_wp2_with fail
                exact stab_end (hk3 _) hz3 k15 hBW3 hn2 (fun hp => by
                  obtain ⟨_, _, h3⟩ := stab_round HOFF.out.symm HS3.out HH.out hm2 HX3.out hp
                  exact h3)
              · have hyb := toList_ne hy
                have HY := Lib.hid hy
                clear hy
                gi_wp2_with fail
                exact ⟨(hk3 _).trans (kf_set _ _ _ _), fun hp => by
                  obtain ⟨_, h2, _⟩ := stab_round HOFF.out.symm HS3.out HH.out hm2 HX3.out hp
                  exact HY.out h2⟩
            · have d1 : ¬ (m : Int) < (L.length : Int) := by omega
              gi_wp2_with fail
              exact ⟨(hk3 _).trans (kf_set _ _ _ _), fun hp => by
                obtain ⟨h1, _, _⟩ := stab_round HOFF.out.symm HS3.out HH.out hm2 HX3.out hp
                exact hn2 h1⟩
          · have hLb := toList_ne hL
            have HL := Lib.hid hL
            clear hL
            gi_wp2_with fail
            refine wpIn_region_quiet_round rfl hmx (by kernel_rfl) (by kernel_rfl) ?_
            repeat (gi_big_quiet_step (fail))
            refine wpQuietIn_nil ?_
            rintro W2 ⟨nq, hW2⟩
            have hbq : Below W.heap.size W W2 := hW2 ▸ below_drewN (Below.refl W.heap.size W) nq
            have hBW2 := HBW.out.trans (hbq.mono (by omega))
            have j15 := HI15.out.below hbq HI15.out.lt
            clear hW2 c3 c4 g4 c6 c15 g15
            have i3 := HT3.out.below hBW2 (by omega)
            have i4 := HT4.out.below hBW2 (by omega)
            have i6 := HT6.out.below hBW2 (by omega)
            have c3 : W2.cell? ⟨w.heap.size, 1, none⟩ = some (.string x.id) := i3.cell 1
            have c4 : W2.cell? ⟨w.heap.size + 1, 0, none⟩ = some (.bool false) := i4.cell 0
            have g4 := i4.frozen 0
            have c6 : W2.cell? ⟨w1.heap.size, 0, none⟩ = some (.slice (some ⟨gv, 0, none⟩) L.length cv) := i6.cell 0
            have c15 : W2.cell? ⟨w6.heap.size + 1, 0, none⟩ = some (.int .i64 (n : Nat)) := j15.cell 0
            have g15 := j15.frozen 0
            clear i3 i4 i6
            have HRW2 := Lib.hid (HRW.out.below hbq hgv)
            clear r0
            obtain ⟨r0, -, -, -⟩ := HRW2.out n hn1
            by_cases hy : L[n].id = y.1
            · have hyb : (L[n].id.toList == y.1.toList) = true := by rw [hy]; simp
              have HY := Lib.hid hy
              clear hy
              gi_wp2_with fail
              exact stab_end (kf_below hbq) (kpz_below hbq) j15 hBW2 hn1 (fun hp => by
                obtain ⟨_, _, h3⟩ := stab_round HOFF.out.symm HS.out HH.out hn (fun _ => HL.out) hp
                exact h3)
            · have hyb := toList_ne hy
              have HY := Lib.hid hy
              clear hy
              gi_wp2_with fail
              exact ⟨((kf_below hbq).trans (kf_set _ _ _ _)), fun hp => by
                obtain ⟨_, h2, _⟩ := stab_round HOFF.out.symm HS.out HH.out hn (fun _ => HL.out) hp
                exact HY.out h2⟩
        · have d0 : (0 : Int) ≤ (n : Int) := by omega
          have d1 : ¬ (n : Int) < (L.length : Int) := by omega
          clear hAv
          gi_wp2_with fail
          refine wpIn_region_quiet_round rfl hmx (by kernel_rfl) (by kernel_rfl) ?_
          repeat (gi_big_quiet_step (fail))
          refine wpQuietIn_nil ?_
          rintro W2 ⟨nq, hW2⟩
          have hbq : Below W.heap.size W W2 := hW2 ▸ below_drewN (Below.refl W.heap.size W) nq
          have hBW2 := HBW.out.trans (hbq.mono (by omega))
          have j15 := HI15.out.below hbq HI15.out.lt
          clear hW2 c3 c4 g4 c6 c15 g15
          have i3 := HT3.out.below hBW2 (by omega)
          have i4 := HT4.out.below hBW2 (by omega)
          have i6 := HT6.out.below hBW2 (by omega)
          have c3 : W2.cell? ⟨w.heap.size, 1, none⟩ = some (.string x.id) := i3.cell 1
          have c4 : W2.cell? ⟨w.heap.size + 1, 0, none⟩ = some (.bool false) := i4.cell 0
          have g4 := i4.frozen 0
          have c6 : W2.cell? ⟨w1.heap.size, 0, none⟩ = some (.slice Av L.length cv) := i6.cell 0
          have c15 : W2.cell? ⟨w6.heap.size + 1, 0, none⟩ = some (.int .i64 (n : Nat)) := j15.cell 0
          have g15 := j15.frozen 0
          clear i3 i4 i6
          gi_wp2_with fail
          exact ⟨((kf_below hbq).trans (kf_set _ _ _ _)), fun hp => by
            obtain ⟨h1, _, _⟩ := stab_round HOFF.out.symm HS.out HH.out hn (fun h => absurd h hn1) hp
            exact hn1 h1⟩
    case done =>
      rintro D ys W hD rfl hI hK
      obtain ⟨n, -, hBW⟩ := hI
      have HBW := Lib.hid (bstep HB7.out (hBW.mono (by omega)))
      have HA3 := Lib.hid (HT4.out.below hBW (by omega))
      have HK := Lib.hid hK
      clear hK hBW hA hr hQl b15 bq bo
      go_wp2_with fail
      refine (known_any _).mono ?_
      rintro e W9 ⟨rfl, hb9⟩
      have hA9 := HA3.out.below hb9 HA3.out.lt
      have f2 : W9.cell? ⟨w.heap.size + 1, 0, none⟩ = some (.bool false) := hA9.cell 0
      have ff2 := hA9.frozen 0
      have HA9 := Lib.hid hA9
      have HK9 := Lib.hid ((hb9.block _ (Array.getElem?_eq_some_iff.1 HK.out).1).trans HK.out)
      have HB9 := Lib.hid (bstep HBW.out hb9)
      clear hA9 hb9
      go_wp2_with fail
      obtain ⟨g1, rf, hbf⟩ := leave1 HA9.out HK9.out HB9.out (by omega) (by omega)
      refine ⟨by simp, .inl ⟨_, _, rfl, run_takeDeferred g1, ?_⟩⟩
      exact ⟨.bool true, by simp [results, Try.results9, go_sem, rf], rfl, hbf⟩
    case stop =>
      rintro D c pre W hD hpre hx
      exact absurd hpre hx
  case false.true =>
    clear hs01
    go_wp2_with (go_at_call 22; refine (all_any _ _).mono ?_; rintro e w' ⟨rfl, rfl⟩)
    have hsz : (w6.alloc (.cells #[.int .i64 p1, .int .i64 s1] 25)).heap.size = w6.heap.size + 1 := by simp
    clear y8 y13
    generalize w6.alloc (.cells #[.int .i64 p1, .int .i64 s1] 25) = w7 at *
    have hB3 : Below (w6.heap.size + 1) w7 (((w7.alloc (.cells #[.int .i64 0] 3)).alloc (.cells #[.pointer (some ⟨q, 0, none⟩)] 44)).alloc (.cells #[.func (.func 45) #[] #[]] 50)) := hsz ▸ (((Below.refl w7.heap.size _).alloc (Nat.le_refl _) _).alloc (by simp) _).alloc (by simp; omega) _
    have b15 := ((At.new w7 3 #[.int .i64 0]).alloc (.cells #[.pointer (some ⟨q, 0, none⟩)] 44)).alloc (.cells #[.func (.func 45) #[] #[]] 50)
    have bq := (At.new (w7.alloc (.cells #[.int .i64 0] 3)) 44 #[.pointer (some ⟨q, 0, none⟩)]).alloc (.cells #[.func (.func 45) #[] #[]] 50)
    have bo := At.new ((w7.alloc (.cells #[.int .i64 0] 3)).alloc (.cells #[.pointer (some ⟨q, 0, none⟩)] 44)) 50 #[.func (.func 45) #[] #[]]
    have hsl : (((w7.alloc (.cells #[.int .i64 0] 3)).alloc (.cells #[.pointer (some ⟨q, 0, none⟩)] 44)).alloc (.cells #[.func (.func 45) #[] #[]] 50)).heap.size = w6.heap.size + 1 + 1 + 1 + 1 := by simp [hsz]
    simp only [World.size_alloc, hsz] at b15 bq bo
    generalize (((w7.alloc (.cells #[.int .i64 0] 3)).alloc (.cells #[.pointer (some ⟨q, 0, none⟩)] 44)).alloc (.cells #[.func (.func 45) #[] #[]] 50)) = wl at *
    have hQl := HQ7.out.below (w' := wl) (hsz ▸ hB3)
    obtain ⟨A, cap, hA, hr, hc⟩ := hQl.body
    have l3 := HT3.out.lt
    have l4 := HT4.out.lt
    have l6 := HT6.out.lt
    refine (wpIn_wide (n := 5)).1 ?_
    refine wpIn_rangeFunc_ownH (w := wl) rfl (by omega) (gf := 43) (lb := #[.pointer (some ⟨w6.heap.size + 1 + 1, 0, none⟩), .pointer (some ⟨w6.heap.size + 1 + 1 + 1, 0, none⟩)]) rfl trivial (enters_of Try.func43 (by kernel_rfl) rfl)
      (all_stops 4 (by omega) (Zs (stabZ w (w6.heap.size + 1))) 0 q g' (w6.heap.size + 1 + 1) (w6.heap.size + 1 + 1 + 1) cap A L2 (.map (some m1)) (.map (some m2)) wl (still_zs _ _) (Nat.zero_le _) (bq.cell 0) (bo.cell 0) hA hr hQl.row (by omega) (fun r z => by rcases z with rfl | rfl <;> omega) (fun z => by rcases z with h | h <;> omega))
      kpz_t kpz_b (Below.refl _ _) (fun _ => rfl) (StabI (w6.heap.size + 1) w7 x.id L L2) (fun c pre W => ¬ pre <+: pairs L2) (stabI_own _ _ _ _ _ _ (by omega) (by omega)) (fun c => ownFrom_pure _ _)
      ⟨0, ⟨⟨Nat.zero_le _, fun _ => rfl⟩, b15⟩, hB3⟩
      (fun y a' W => a' = { tmps := #[.slice SA sn sc, .agg #[.int .u8 k, .string x.id, .int .i64 x.p, .int .i64 x.s, .int .i64 x.v], undef, .pointer (some ⟨w.heap.size, 0, none⟩), .pointer (some ⟨w.heap.size + 1, 0, none⟩), .pointer (some ⟨q, 0, none⟩), .pointer (some ⟨w1.heap.size, 0, none⟩), .int .i64 v0, .pointer (some ⟨w3.heap.size, 0, none⟩), .bool false, v', .bool true, .int .i64 v1, .pointer (some ⟨w6.heap.size, 0, none⟩), .bool true, .pointer (some ⟨w6.heap.size + 1, 0, none⟩), .string y.1, .bool true, .bool false, .tuple #[.pointer (some ⟨q, 0, none⟩), .slice Av L.length cv], .slice SA sn sc, .tuple #[.pointer (some ⟨q, 0, none⟩), .slice Av L.length cv], .pointer (some ⟨q, 0, none⟩), .slice Av L.length cv, .pointer (some ⟨q, 0, none⟩), .bool false, .tuple #[.int .i64 v0, .agg #[.int .i64 p0, .int .i64 s0], .bool false], .pointer (some ⟨q, 0, none⟩), .pointer (some ⟨w.heap.size, 1, none⟩), .pointer (some ⟨w.heap.size, 1, none⟩), .string x.id, .tuple #[.int .i64 v0, .agg #[.int .i64 p0, .int .i64 s0], .bool false], .int .i64 v0, .agg #[.int .i64 p0, .int .i64 s0], .bool false, .tuple #[v', .bool true], .pointer (some ⟨q, 0, none⟩), .slice Av L.length cv, .agg #[.int .u8 k, .string x.id, .int .i64 x.p, .int .i64 x.s, .int .i64 x.v], .tuple #[v', .bool true], v', .bool true, .bool true, .bool false, .tuple #[.int .i64 v1, .agg #[.int .i64 p1, .int .i64 s1], .bool true], .pointer (some ⟨q, 0, none⟩), .pointer (some ⟨w.heap.size, 1, none⟩), .pointer (some ⟨w.heap.size, 1, none⟩), .string x.id, .tuple #[.int .i64 v1, .agg #[.int .i64 p1, .int .i64 s1], .bool true], .int .i64 v1, .agg #[.int .i64 p1, .int .i64 s1], .bool true, .bool false, .bool false, undef, .bool false, .bool false, undef, undef, undef, undef, undef, .bool false, .pointer (some ⟨q, 0, none⟩), .func (.func 43) #[] #[.pointer (some ⟨w6.heap.size + 1 + 1, 0, none⟩), .pointer (some ⟨w6.heap.size + 1 + 1 + 1, 0, none⟩)], .string y.1, .int .i64 y.2, undef, undef, undef, undef, undef, undef, undef, undef, undef, undef, undef, undef, undef, undef, undef, undef, undef, undef, undef, undef, undef, undef, undef, undef, undef, undef, undef, undef, undef, undef, undef, undef, undef, undef, undef, undef, undef, undef], defers := [] }) (fun _ _ _ _ _ _ hs _ _ => hs) ?assign ?body ?done ?stop
    case assign =>
      intro lb pre x W K hi hK
      gi_wp2
      exact hK _ _ (KeepsFrom.refl _ _) (KpZ.refl _ _) hi rfl
    case body =>
      rintro lb pre y a' W hlb hrec ⟨n, ⟨⟨hn, hs⟩, i15⟩, hBW⟩ rfl hlen
      have hmx : Try.prog.follows .mixedOrders = true := by kernel_rfl
      have hBWs := hBW.size
      have i3 := HT3.out.below hBW (by omega)
      have i4 := HT4.out.below hBW (by omega)
      have i6 := HT6.out.below hBW (by omega)
      have hRW := HRL7.out.below (hsz ▸ hBW)
      obtain ⟨Av', gv, cv', heq, hgv, hAv, hrv, hcv⟩ := hRW.form2 (b := w.heap.size) i3.lt
      obtain ⟨rfl, -, rfl⟩ : Av = Av' ∧ L.length = L.length ∧ cv = cv' := by simpa using heq
      have HRW := Lib.hid hrv
      clear hRW hrv heq hcv
      have c3 : W.cell? ⟨w.heap.size, 1, none⟩ = some (.string x.id) := i3.cell 1
      have c4 : W.cell? ⟨w.heap.size + 1, 0, none⟩ = some (.bool false) := i4.cell 0
      have g4 := i4.frozen 0
      have c6 : W.cell? ⟨w1.heap.size, 0, none⟩ = some (.slice Av L.length cv) := i6.cell 0
      have c15 : W.cell? ⟨w6.heap.size + 1, 0, none⟩ = some (.int .i64 (n : Nat)) := i15.cell 0
      have g15 := i15.frozen 0
      clear i3 i4 i6
      have HI15 := Lib.hid i15
      have HBW := Lib.hid hBW
      have HS := Lib.hid hs
      clear hs i15 hBW hrec
      by_cases h1 : y.1 = x.id
      · have h1b : (y.1.toList == x.id.toList) = true := by rw [h1]; simp
        have HH := Lib.hid h1
        clear h1
        gi_wp2_with fail
        exact ⟨KeepsFrom.refl _ _, KpZ.refl _ _, n, ⟨⟨hn, fun hp => by
          obtain ⟨hk, h2, h3⟩ := pre_get hp
          rw [List.length_append]
          exact sync_skip (HS.out ((List.prefix_append _ _).trans hp)) hk (by rw [← h2]; exact HH.out)⟩, HI15.out⟩, HBW.out⟩
      · have h1b := toList_ne h1
        have HH := Lib.hid h1
        clear h1
        by_cases hn1 : n < L.length
        · obtain rfl := hAv (by omega)
          obtain ⟨r0, -, -, -⟩ := HRW.out n hn1
          have d0 : (0 : Int) ≤ (n : Int) := by omega
          have d1 : (n : Int) < (L.length : Int) := by omega
          clear hAv
          by_cases hL : L[n].id = x.id
          · have hLb : (L[n].id.toList == x.id.toList) = true := by rw [hL]; simp
            have HL := Lib.hid hL
            clear hL
            gi_wp2_with fail
            refine wpIn_region_quiet_round rfl hmx (by kernel_rfl) (by kernel_rfl) ?_
            repeat (gi_big_quiet_step (fail))
            refine wpQuietIn_nil ?_
            rintro W2 ⟨nq, hW2⟩
            have hbq : Below W.heap.size W W2 := hW2 ▸ below_drewN (Below.refl W.heap.size W) nq
            have hBW2 := HBW.out.trans (hbq.mono (by omega))
            have j15 := HI15.out.below hbq HI15.out.lt
            clear hW2 c3 c4 g4 c6 c15 g15
            have i3 := HT3.out.below hBW2 (by omega)
            have i4 := HT4.out.below hBW2 (by omega)
            have i6 := HT6.out.below hBW2 (by omega)
            have c3 : W2.cell? ⟨w.heap.size, 1, none⟩ = some (.string x.id) := i3.cell 1
            have c4 : W2.cell? ⟨w.heap.size + 1, 0, none⟩ = some (.bool false) := i4.cell 0
            have g4 := i4.frozen 0
            have c6 : W2.cell? ⟨w1.heap.size, 0, none⟩ = some (.slice (some ⟨gv, 0, none⟩) L.length cv) := i6.cell 0
            have c15 : W2.cell? ⟨w6.heap.size + 1, 0, none⟩ = some (.int .i64 (n : Nat)) := j15.cell 0
            have g15 := j15.frozen 0
            clear i3 i4 i6
            gi_upto_region 19 with fail
            have hk3 : ∀ C, KeepsFrom C W (W2.setCell ⟨w6.heap.size + 1, 0, none⟩ (.int .i64 ((n : Int) + 1))) := fun C => (kf_below hbq).trans (kf_set _ _ _ _)
            have hz3 : KpZ (Zs (stabZ w (w6.heap.size + 1))) W (W2.setCell ⟨w6.heap.size + 1, 0, none⟩ (.int .i64 ((n : Int) + 1))) := (kpz_below hbq).trans (kpz_set _ _ _ (.inr rfl))
            have hBW3 := hBW2.setCell (p := ⟨w6.heap.size + 1, 0, none⟩) (Nat.le_refl _) (.int .i64 ((n : Int) + 1))
            have hsz3 := hbq.size
            obtain ⟨m, hm⟩ : ∃ m, m = n + 1 := ⟨_, rfl⟩
            have k15 : At (W2.setCell ⟨w6.heap.size + 1, 0, none⟩ (.int .i64 ((n : Int) + 1))) (w6.heap.size + 1) 3 #[.int .i64 (m : Nat)] := by
              have h16 := j15.set 0 (.int .i64 ((n : Int) + 1))
              simp at h16
              rw [show ((m : Nat) : Int) = (n : Int) + 1 by omega]
              exact h16
            have hs3 : pre <+: pairs L2 → Sync x.id L L2 m pre.length := fun hp => by
              subst hm
              exact sync_old (HS.out hp) hn1 HL.out
            have hx3 : ∀ h : m < L.length, L[m].id ≠ x.id := fun h => by
              subst hm
              exact next_ne HBB4.out.qu.good hn1 HL.out h
            have hm2 : m ≤ L.length := by omega
            obtain ⟨Av2, gv2, cv2, heq2, hgv2, hAv2, hrv2, hcv2⟩ := (HRL7.out.below (hsz ▸ hBW3)).form2 (b := w.heap.size) (HT3.out.below hBW3 (by omega)).lt
            obtain rfl : gv = gv2 := by
              have h1 := hAv2 (by omega)
              subst h1
              simp at heq2
              exact heq2.1
            have HRW3 := Lib.hid hrv2
            have HS3 := Lib.hid hs3
            have HX3 := Lib.hid hx3
            clear c3 c4 g4 c6 c15 g15 r0 hrv2 hs3 hx3 heq2 hAv2 d0 d1 hLb hm
            generalize (W2.setCell ⟨w6.heap.size + 1, 0, none⟩ (.int .i64 ((n : Int) + 1))) = W3 at *
            have i3 := HT3.out.below hBW3 (by omega)
            have i4 := HT4.out.below hBW3 (by omega)
            have i6 := HT6.out.below hBW3 (by omega)
            have c3 : W3.cell? ⟨w.heap.size, 1, none⟩ = some (.string x.id) := i3.cell 1
            have c4 : W3.cell? ⟨w.heap.size + 1, 0, none⟩ = some (.bool false) := i4.cell 0
            have g4 := i4.frozen 0
            have c6 : W3.cell? ⟨w1.heap.size, 0, none⟩ = some (.slice (some ⟨gv, 0, none⟩) L.length cv) := i6.cell 0
            have c15 : W3.cell? ⟨w6.heap.size + 1, 0, none⟩ = some (.int .i64 (m : Nat)) := k15.cell 0
            have g15 := k15.frozen 0
            clear i3 i4 i6
            have d0 : (0 : Int) ≤ (m : Int) := by omega
            by_cases hn2 : m < L.length
            · have d1 : (m : Int) < (L.length : Int) := by omega
              obtain ⟨r0, -, -, -⟩ := HRW3.out m hn2
              by_cases hy : L[m].id = y.1
              · have hyb : (L[m].id.toList == y.1.toList) = true := by rw [hy]; simp
                have HY := Lib.hid hy
                clear hy
                gi_wp2_with fail
                exact stab_end (hk3 _) hz3 k15 hBW3 hn2 (fun hp => by
                  obtain ⟨_, _, h3⟩ := stab_round HOFF.out.symm HS3.out HH.out hm2 HX3.out hp
                  exact h3)
              · have hyb := toList_ne hy
                have HY := Lib.hid hy
                clear hy
                gi_wp2_with fail
                exact ⟨(hk3 _).trans (kf_set _ _ _ _), fun hp => by
                  obtain ⟨_, h2, _⟩ := stab_round HOFF.out.symm HS3.out HH.out hm2 HX3.out hp
                  exact HY.out h2⟩
            · have d1 : ¬ (m : Int) < (L.length : Int) := by omega
              gi_wp2_with fail
              exact ⟨(hk3 _).trans (kf_set _ _ _ _), fun hp => by
                obtain ⟨h1, _, _⟩ := stab_round HOFF.out.symm HS3.out HH.out hm2 HX3.out hp
                exact hn2 h1⟩
          · have hLb := toList_ne hL
            have HL := Lib.hid hL
            clear hL
            gi_wp2_with fail
            refine wpIn_region_quiet_round rfl hmx (by kernel_rfl) (by kernel_rfl) ?_
            repeat (gi_big_quiet_step (fail))
            refine wpQuietIn_nil ?_
            rintro W2 ⟨nq, hW2⟩
            have hbq : Below W.heap.size W W2 := hW2 ▸ below_drewN (Below.refl W.heap.size W) nq
            have hBW2 := HBW.out.trans (hbq.mono (by omega))
            have j15 := HI15.out.below hbq HI15.out.lt
            clear hW2 c3 c4 g4 c6 c15 g15
            have i3 := HT3.out.below hBW2 (by omega)
            have i4 := HT4.out.below hBW2 (by omega)
            have i6 := HT6.out.below hBW2 (by omega)
            have c3 : W2.cell? ⟨w.heap.size, 1, none⟩ = some (.string x.id) := i3.cell 1
            have c4 : W2.cell? ⟨w.heap.size + 1, 0, none⟩ = some (.bool false) := i4.cell 0
            have g4 := i4.frozen 0
            have c6 : W2.cell? ⟨w1.heap.size, 0, none⟩ = some (.slice (some ⟨gv, 0, none⟩) L.length cv) := i6.cell 0
            have c15 : W2.cell? ⟨w6.heap.size + 1, 0, none⟩ = some (.int .i64 (n : Nat)) := j15.cell 0
            have g15 := j15.frozen 0
            clear i3 i4 i6
            have HRW2 := Lib.hid (HRW.out.below hbq hgv)
            clear r0
            obtain ⟨r0, -, -, -⟩ := HRW2.out n hn1
            by_cases hy : L[n].id = y.1
            · have hyb : (L[n].id.toList == y.1.toList) = true := by rw [hy]; simp
              have HY := Lib.hid hy
              clear hy
              gi_wp2_with fail
              exact stab_end (kf_below hbq) (kpz_below hbq) j15 hBW2 hn1 (fun hp => by
                obtain ⟨_, _, h3⟩ := stab_round HOFF.out.symm HS.out HH.out hn (fun _ => HL.out) hp
                exact h3)
            · have hyb := toList_ne hy
              have HY := Lib.hid hy
              clear hy
              gi_wp2_with fail
              exact ⟨((kf_below hbq).trans (kf_set _ _ _ _)), fun hp => by
                obtain ⟨_, h2, _⟩ := stab_round HOFF.out.symm HS.out HH.out hn (fun _ => HL.out) hp
                exact HY.out h2⟩
        · have d0 : (0 : Int) ≤ (n : Int) := by omega
          have d1 : ¬ (n : Int) < (L.length : Int) := by omega
          clear hAv
          gi_wp2_with fail
          refine wpIn_region_quiet_round rfl hmx (by kernel_rfl) (by kernel_rfl) ?_
          repeat (gi_big_quiet_step (fail))
          refine wpQuietIn_nil ?_
          rintro W2 ⟨nq, hW2⟩
          have hbq : Below W.heap.size W W2 := hW2 ▸ below_drewN (Below.refl W.heap.size W) nq
          have hBW2 := HBW.out.trans (hbq.mono (by omega))
          have j15 := HI15.out.below hbq HI15.out.lt
          clear hW2 c3 c4 g4 c6 c15 g15
          have i3 := HT3.out.below hBW2 (by omega)
          have i4 := HT4.out.below hBW2 (by omega)
          have i6 := HT6.out.below hBW2 (by omega)
          have c3 : W2.cell? ⟨w.heap.size, 1, none⟩ = some (.string x.id) := i3.cell 1
          have c4 : W2.cell? ⟨w.heap.size + 1, 0, none⟩ = some (.bool false) := i4.cell 0
          have g4 := i4.frozen 0
          have c6 : W2.cell? ⟨w1.heap.size, 0, none⟩ = some (.slice Av L.length cv) := i6.cell 0
          have c15 : W2.cell? ⟨w6.heap.size + 1, 0, none⟩ = some (.int .i64 (n : Nat)) := j15.cell 0
          have g15 := j15.frozen 0
          clear i3 i4 i6
          gi_wp2_with fail
          exact ⟨((kf_below hbq).trans (kf_set _ _ _ _)), fun hp => by
            obtain ⟨h1, _, _⟩ := stab_round HOFF.out.symm HS.out HH.out hn (fun h => absurd h hn1) hp
            exact hn1 h1⟩
    case done =>
      rintro D ys W hD rfl hI hK
      obtain ⟨n, -, hBW⟩ := hI
      have HBW := Lib.hid (bstep HB7.out (hBW.mono (by omega)))
      have HA3 := Lib.hid (HT4.out.below hBW (by omega))
      have HK := Lib.hid hK
      clear hK hBW hA hr hQl b15 bq bo
      go_wp2_with fail
      refine (known_any _).mono ?_
      rintro e W9 ⟨rfl, hb9⟩
      have hA9 := HA3.out.below hb9 HA3.out.lt
      have f2 : W9.cell? ⟨w.heap.size + 1, 0, none⟩ = some (.bool false) := hA9.cell 0
      have ff2 := hA9.frozen 0
      have HA9 := Lib.hid hA9
      have HK9 := Lib.hid ((hb9.block _ (Array.getElem?_eq_some_iff.1 HK.out).1).trans HK.out)
      have HB9 := Lib.hid (bstep HBW.out hb9)
      clear hA9 hb9
      go_wp2_with fail
      obtain ⟨g1, rf, hbf⟩ := leave1 HA9.out HK9.out HB9.out (by omega) (by omega)
      refine ⟨by simp, .inl ⟨_, _, rfl, run_takeDeferred g1, ?_⟩⟩
      exact ⟨.bool true, by simp [results, Try.results9, go_sem, rf], rfl, hbf⟩
    case stop =>
      rintro D c pre W hD hpre hx
      exact absurd hpre hx
  case false.false =>
    clear hs01
    go_wp2_with (go_at_call 22; refine (all_any _ _).mono ?_; rintro e w' ⟨rfl, rfl⟩)
    have hsz : (w6.alloc (.cells #[.int .i64 p1, .int .i64 s1] 25)).heap.size = w6.heap.size + 1 := by simp
    clear y8 y13
    generalize w6.alloc (.cells #[.int .i64 p1, .int .i64 s1] 25) = w7 at *
    have hB3 : Below (w6.heap.size + 1) w7 (((w7.alloc (.cells #[.int .i64 0] 3)).alloc (.cells #[.pointer (some ⟨q, 0, none⟩)] 44)).alloc (.cells #[.func (.func 45) #[] #[]] 50)) := hsz ▸ (((Below.refl w7.heap.size _).alloc (Nat.le_refl _) _).alloc (by simp) _).alloc (by simp; omega) _
    have b15 := ((At.new w7 3 #[.int .i64 0]).alloc (.cells #[.pointer (some ⟨q, 0, none⟩)] 44)).alloc (.cells #[.func (.func 45) #[] #[]] 50)
    have bq := (At.new (w7.alloc (.cells #[.int .i64 0] 3)) 44 #[.pointer (some ⟨q, 0, none⟩)]).alloc (.cells #[.func (.func 45) #[] #[]] 50)
    have bo := At.new ((w7.alloc (.cells #[.int .i64 0] 3)).alloc (.cells #[.pointer (some ⟨q, 0, none⟩)] 44)) 50 #[.func (.func 45) #[] #[]]
    have hsl : (((w7.alloc (.cells #[.int .i64 0] 3)).alloc (.cells #[.pointer (some ⟨q, 0, none⟩)] 44)).alloc (.cells #[.func (.func 45) #[] #[]] 50)).heap.size = w6.heap.size + 1 + 1 + 1 + 1 := by simp [hsz]
    simp only [World.size_alloc, hsz] at b15 bq bo
    generalize (((w7.alloc (.cells #[.int .i64 0] 3)).alloc (.cells #[.pointer (some ⟨q, 0, none⟩)] 44)).alloc (.cells #[.func (.func 45) #[] #[]] 50)) = wl at *
    have hQl := HQ7.out.below (w' := wl) (hsz ▸ hB3)
    obtain ⟨A, cap, hA, hr, hc⟩ := hQl.body
    have l3 := HT3.out.lt
    have l4 := HT4.out.lt
    have l6 := HT6.out.lt
    refine (wpIn_wide (n := 5)).1 ?_
    refine wpIn_rangeFunc_ownH (w := wl) rfl (by omega) (gf := 43) (lb := #[.pointer (some ⟨w6.heap.size + 1 + 1, 0, none⟩), .pointer (some ⟨w6.heap.size + 1 + 1 + 1, 0, none⟩)]) rfl trivial (enters_of Try.func43 (by kernel_rfl) rfl)
      (all_stops 4 (by omega) (Zs (stabZ w (w6.heap.size + 1))) 0 q g' (w6.heap.size + 1 + 1) (w6.heap.size + 1 + 1 + 1) cap A L2 (.map (some m1)) (.map (some m2)) wl (still_zs _ _) (Nat.zero_le _) (bq.cell 0) (bo.cell 0) hA hr hQl.row (by omega) (fun r z => by rcases z with rfl | rfl <;> omega) (fun z => by rcases z with h | h <;> omega))
      kpz_t kpz_b (Below.refl _ _) (fun _ => rfl) (StabI (w6.heap.size + 1) w7 x.id L L2) (fun c pre W => ¬ pre <+: pairs L2) (stabI_own _ _ _ _ _ _ (by omega) (by omega)) (fun c => ownFrom_pure _ _)
      ⟨0, ⟨⟨Nat.zero_le _, fun _ => rfl⟩, b15⟩, hB3⟩
      (fun y a' W => a' = { tmps := #[.slice SA sn sc, .agg #[.int .u8 k, .string x.id, .int .i64 x.p, .int .i64 x.s, .int .i64 x.v], undef, .pointer (some ⟨w.heap.size, 0, none⟩), .pointer (some ⟨w.heap.size + 1, 0, none⟩), .pointer (some ⟨q, 0, none⟩), .pointer (some ⟨w1.heap.size, 0, none⟩), .int .i64 v0, .pointer (some ⟨w3.heap.size, 0, none⟩), .bool false, v', .bool true, .int .i64 v1, .pointer (some ⟨w6.heap.size, 0, none⟩), .bool false, .pointer (some ⟨w6.heap.size + 1, 0, none⟩), .string y.1, .bool true, .bool false, .tuple #[.pointer (some ⟨q, 0, none⟩), .slice Av L.length cv], .slice SA sn sc, .tuple #[.pointer (some ⟨q, 0, none⟩), .slice Av L.length cv], .pointer (some ⟨q, 0, none⟩), .slice Av L.length cv, .pointer (some ⟨q, 0, none⟩), .bool false, .tuple #[.int .i64 v0, .agg #[.int .i64 p0, .int .i64 s0], .bool false], .pointer (some ⟨q, 0, none⟩), .pointer (some ⟨w.heap.size, 1, none⟩), .pointer (some ⟨w.heap.size, 1, none⟩), .string x.id, .tuple #[.int .i64 v0, .agg #[.int .i64 p0, .int .i64 s0], .bool false], .int .i64 v0, .agg #[.int .i64 p0, .int .i64 s0], .bool false, .tuple #[v', .bool true], .pointer (some ⟨q, 0, none⟩), .slice Av L.length cv, .agg #[.int .u8 k, .string x.id, .int .i64 x.p, .int .i64 x.s, .int .i64 x.v], .tuple #[v', .bool true], v', .bool true, .bool true, .bool false, .tuple #[.int .i64 v1, .agg #[.int .i64 p1, .int .i64 s1], .bool false], .pointer (some ⟨q, 0, none⟩), .pointer (some ⟨w.heap.size, 1, none⟩), .pointer (some ⟨w.heap.size, 1, none⟩), .string x.id, .tuple #[.int .i64 v1, .agg #[.int .i64 p1, .int .i64 s1], .bool false], .int .i64 v1, .agg #[.int .i64 p1, .int .i64 s1], .bool false, .bool false, .bool false, undef, .bool false, .bool false, undef, undef, undef, undef, undef, .bool false, .pointer (some ⟨q, 0, none⟩), .func (.func 43) #[] #[.pointer (some ⟨w6.heap.size + 1 + 1, 0, none⟩), .pointer (some ⟨w6.heap.size + 1 + 1 + 1, 0, none⟩)], .string y.1, .int .i64 y.2, undef, undef, undef, undef, undef, undef, undef, undef, undef, undef, undef, undef, undef, undef, undef, undef, undef, undef, undef, undef, undef, undef, undef, undef, undef, undef, undef, undef, undef, undef, undef, undef, undef, undef, undef, undef, undef, undef], defers := [] }) (fun _ _ _ _ _ _ hs _ _ => hs) ?assign ?body ?done ?stop
    case assign =>
      intro lb pre x W K hi hK
      gi_wp2
      exact hK _ _ (KeepsFrom.refl _ _) (KpZ.refl _ _) hi rfl
    case body =>
      rintro lb pre y a' W hlb hrec ⟨n, ⟨⟨hn, hs⟩, i15⟩, hBW⟩ rfl hlen
      have hmx : Try.prog.follows .mixedOrders = true := by kernel_rfl
      have hBWs := hBW.size
      have i3 := HT3.out.below hBW (by omega)
      have i4 := HT4.out.below hBW (by omega)
      have i6 := HT6.out.below hBW (by omega)
      have hRW := HRL7.out.below (hsz ▸ hBW)
      obtain ⟨Av', gv, cv', heq, hgv, hAv, hrv, hcv⟩ := hRW.form2 (b := w.heap.size) i3.lt
      obtain ⟨rfl, -, rfl⟩ : Av = Av' ∧ L.length = L.length ∧ cv = cv' := by simpa using heq
      have HRW := Lib.hid hrv
      clear hRW hrv heq hcv
      have c3 : W.cell? ⟨w.heap.size, 1, none⟩ = some (.string x.id) := i3.cell 1
      have c4 : W.cell? ⟨w.heap.size + 1, 0, none⟩ = some (.bool false) := i4.cell 0
      have g4 := i4.frozen 0
      have c6 : W.cell? ⟨w1.heap.size, 0, none⟩ = some (.slice Av L.length cv) := i6.cell 0
      have c15 : W.cell? ⟨w6.heap.size + 1, 0, none⟩ = some (.int .i64 (n : Nat)) := i15.cell 0
      have g15 := i15.frozen 0
      clear i3 i4 i6
      have HI15 := Lib.hid i15
      have HBW := Lib.hid hBW
      have HS := Lib.hid hs
      clear hs i15 hBW hrec
      by_cases h1 : y.1 = x.id
      · have h1b : (y.1.toList == x.id.toList) = true := by rw [h1]; simp
        have HH := Lib.hid h1
        clear h1
        gi_wp2_with fail
        exact ⟨KeepsFrom.refl _ _, KpZ.refl _ _, n, ⟨⟨hn, fun hp => by
          obtain ⟨hk, h2, h3⟩ := pre_get hp
          rw [List.length_append]
          exact sync_skip (HS.out ((List.prefix_append _ _).trans hp)) hk (by rw [← h2]; exact HH.out)⟩, HI15.out⟩, HBW.out⟩
      · have h1b := toList_ne h1
        have HH := Lib.hid h1
        clear h1
        by_cases hn1 : n < L.length
        · obtain rfl := hAv (by omega)
          obtain ⟨r0, -, -, -⟩ := HRW.out n hn1
          have d0 : (0 : Int) ≤ (n : Int) := by omega
          have d1 : (n : Int) < (L.length : Int) := by omega
          clear hAv
          by_cases hL : L[n].id = x.id
          · have hLb : (L[n].id.toList == x.id.toList) = true := by rw [hL]; simp
            have HL := Lib.hid hL
            clear hL
            gi_wp2_with fail
            refine wpIn_region_quiet_round rfl hmx (by kernel_rfl) (by kernel_rfl) ?_
            repeat (gi_big_quiet_step (fail))
            refine wpQuietIn_nil ?_
            rintro W2 ⟨nq, hW2⟩
            have hbq : Below W.heap.size W W2 := hW2 ▸ below_drewN (Below.refl W.heap.size W) nq
            have hBW2 := HBW.out.trans (hbq.mono (by omega))
            have j15 := HI15.out.below hbq HI15.out.lt
            clear hW2 c3 c4 g4 c6 c15 g15
            have i3 := HT3.out.below hBW2 (by omega)
            have i4 := HT4.out.below hBW2 (by omega)
            have i6 := HT6.out.below hBW2 (by omega)
            have c3 : W2.cell? ⟨w.heap.size, 1, none⟩ = some (.string x.id) := i3.cell 1
            have c4 : W2.cell? ⟨w.heap.size + 1, 0, none⟩ = some (.bool false) := i4.cell 0
            have g4 := i4.frozen 0
            have c6 : W2.cell? ⟨w1.heap.size, 0, none⟩ = some (.slice (some ⟨gv, 0, none⟩) L.length cv) := i6.cell 0
            have c15 : W2.cell? ⟨w6.heap.size + 1, 0, none⟩ = some (.int .i64 (n : Nat)) := j15.cell 0
            have g15 := j15.frozen 0
            clear i3 i4 i6
            gi_upto_region 19 with fail
            have hk3 : ∀ C, KeepsFrom C W (W2.setCell ⟨w6.heap.size + 1, 0, none⟩ (.int .i64 ((n : Int) + 1))) := fun C => (kf_below hbq).trans (kf_set _ _ _ _)
            have hz3 : KpZ (Zs (stabZ w (w6.heap.size + 1))) W (W2.setCell ⟨w6.heap.size + 1, 0, none⟩ (.int .i64 ((n : Int) + 1))) := (kpz_below hbq).trans (kpz_set _ _ _ (.inr rfl))
            have hBW3 := hBW2.setCell (p := ⟨w6.heap.size + 1, 0, none⟩) (Nat.le_refl _) (.int .i64 ((n : Int) + 1))
            have hsz3 := hbq.size
            obtain ⟨m, hm⟩ : ∃ m, m = n + 1 := ⟨_, rfl⟩
            have k15 : At (W2.setCell ⟨w6.heap.size + 1, 0, none⟩ (.int .i64 ((n : Int) + 1))) (w6.heap.size + 1) 3 #[.int .i64 (m : Nat)] := by
              have h16 := j15.set 0 (.int .i64 ((n : Int) + 1))
              simp at h16
              rw [show ((m : Nat) : Int) = (n : Int) + 1 by omega]
              exact h16
            have hs3 : pre <+: pairs L2 → Sync x.id L L2 m pre.length := fun hp => by
              subst hm
              exact sync_old (HS.out hp) hn1 HL.out
            have hx3 : ∀ h : m < L.length, L[m].id ≠ x.id := fun h => by
              subst hm
              exact next_ne HBB4.out.qu.good hn1 HL.out h
            have hm2 : m ≤ L.length := by omega
            obtain ⟨Av2, gv2, cv2, heq2, hgv2, hAv2, hrv2, hcv2⟩ := (HRL7.out.below (hsz ▸ hBW3)).form2 (b := w.heap.size) (HT3.out.below hBW3 (by omega)).lt
            obtain rfl : gv = gv2 := by
              have h1 := hAv2 (by omega)
              subst h1
              simp at heq2
              exact heq2.1
            have HRW3 := Lib.hid hrv2
            have HS3 := Lib.hid hs3
            have HX3 := Lib.hid hx3
            clear c3 c4 g4 c6 c15 g15 r0 hrv2 hs3 hx3 heq2 hAv2 d0 d1 hLb hm
            generalize (W2.setCell ⟨w6.heap.size + 1, 0, none⟩ (.int .i64 ((n : Int) + 1))) = W3 at *
            have i3 := HT3.out.below hBW3 (by omega)
            have i4 := HT4.out.below hBW3 (by omega)
            have i6 := HT6.out.below hBW3 (by omega)
            have c3 : W3.cell? ⟨w.heap.size, 1, none⟩ = some (.string x.id) := i3.cell 1
            have c4 : W3.cell? ⟨w.heap.size + 1, 0, none⟩ = some (.bool false) := i4.cell 0
            have g4 := i4.frozen 0
            have c6 : W3.cell? ⟨w1.heap.size, 0, none⟩ = some (.slice (some ⟨gv, 0, none⟩) L.length cv) := i6.cell 0
            have c15 : W3.cell? ⟨w6.heap.size + 1, 0, none⟩ = some (.int .i64 (m : Nat)) := k15.cell 0
            have g15 := k15.frozen 0
            clear i3 i4 i6
            have d0 : (0 : Int) ≤ (m : Int) := by omega
            by_cases hn2 : m < L.length
            · have d1 : (m : Int) < (L.length : Int) := by omega
              obtain ⟨r0, -, -, -⟩ := HRW3.out m hn2
              by_cases hy : L[m].id = y.1
              · have hyb : (L[m].id.toList == y.1.toList) = true := by rw [hy]; simp
                have HY := Lib.hid hy
                clear hy
                gi_wp2_with fail
                exact stab_end (hk3 _) hz3 k15 hBW3 hn2 (fun hp => by
                  obtain ⟨_, _, h3⟩ := stab_round HOFF.out.symm HS3.out HH.out hm2 HX3.out hp
                  exact h3)
              · have hyb := toList_ne hy
                have HY := Lib.hid hy
                clear hy
                gi_wp2_with fail
                exact ⟨(hk3 _).trans (kf_set _ _ _ _), fun hp => by
                  obtain ⟨_, h2, _⟩ := stab_round HOFF.out.symm HS3.out HH.out hm2 HX3.out hp
                  exact HY.out h2⟩
            · have d1 : ¬ (m : Int) < (L.length : Int) := by omega
              gi_wp2_with fail
              exact ⟨(hk3 _).trans (kf_set _ _ _ _), fun hp => by
                obtain ⟨h1, _, _⟩ := stab_round HOFF.out.symm HS3.out HH.out hm2 HX3.out hp
                exact hn2 h1⟩
          · have hLb := toList_ne hL
            have HL := Lib.hid hL
            clear hL
            gi_wp2_with fail
            refine wpIn_region_quiet_round rfl hmx (by kernel_rfl) (by kernel_rfl) ?_
            repeat (gi_big_quiet_step (fail))
            refine wpQuietIn_nil ?_
            rintro W2 ⟨nq, hW2⟩
            have hbq : Below W.heap.size W W2 := hW2 ▸ below_drewN (Below.refl W.heap.size W) nq
            have hBW2 := HBW.out.trans (hbq.mono (by omega))
            have j15 := HI15.out.below hbq HI15.out.lt
            clear hW2 c3 c4 g4 c6 c15 g15
            have i3 := HT3.out.below hBW2 (by omega)
            have i4 := HT4.out.below hBW2 (by omega)
            have i6 := HT6.out.below hBW2 (by omega)
            have c3 : W2.cell? ⟨w.heap.size, 1, none⟩ = some (.string x.id) := i3.cell 1
            have c4 : W2.cell? ⟨w.heap.size + 1, 0, none⟩ = some (.bool false) := i4.cell 0
            have g4 := i4.frozen 0
            have c6 : W2.cell? ⟨w1.heap.size, 0, none⟩ = some (.slice (some ⟨gv, 0, none⟩) L.length cv) := i6.cell 0
            have c15 : W2.cell? ⟨w6.heap.size + 1, 0, none⟩ = some (.int .i64 (n : Nat)) := j15.cell 0
            have g15 := j15.frozen 0
            clear i3 i4 i6
            have HRW2 := Lib.hid (HRW.out.below hbq hgv)
            clear r0
            obtain ⟨r0, -, -, -⟩ := HRW2.out n hn1
            by_cases hy : L[n].id = y.1
            · have hyb : (L[n].id.toList == y.1.toList) = true := by rw [hy]; simp
              have HY := Lib.hid hy
              clear hy
              gi_wp2_with fail
              exact stab_end (kf_below hbq) (kpz_below hbq) j15 hBW2 hn1 (fun hp => by
                obtain ⟨_, _, h3⟩ := stab_round HOFF.out.symm HS.out HH.out hn (fun _ => HL.out) hp
                exact h3)
            · have hyb := toList_ne hy
              have HY := Lib.hid hy
              clear hy
              gi_wp2_with fail
              exact ⟨((kf_below hbq).trans (kf_set _ _ _ _)), fun hp => by
                obtain ⟨_, h2, _⟩ := stab_round HOFF.out.symm HS.out HH.out hn (fun _ => HL.out) hp
                exact HY.out h2⟩
        · have d0 : (0 : Int) ≤ (n : Int) := by omega
          have d1 : ¬ (n : Int) < (L.length : Int) := by omega
          clear hAv
          gi_wp2_with fail
          refine wpIn_region_quiet_round rfl hmx (by kernel_rfl) (by kernel_rfl) ?_
          repeat (gi_big_quiet_step (fail))
          refine wpQuietIn_nil ?_
          rintro W2 ⟨nq, hW2⟩
          have hbq : Below W.heap.size W W2 := hW2 ▸ below_drewN (Below.refl W.heap.size W) nq
          have hBW2 := HBW.out.trans (hbq.mono (by omega))
          have j15 := HI15.out.below hbq HI15.out.lt
          clear hW2 c3 c4 g4 c6 c15 g15
          have i3 := HT3.out.below hBW2 (by omega)
          have i4 := HT4.out.below hBW2 (by omega)
          have i6 := HT6.out.below hBW2 (by omega)
          have c3 : W2.cell? ⟨w.heap.size, 1, none⟩ = some (.string x.id) := i3.cell 1
          have c4 : W2.cell? ⟨w.heap.size + 1, 0, none⟩ = some (.bool false) := i4.cell 0
          have g4 := i4.frozen 0
          have c6 : W2.cell? ⟨w1.heap.size, 0, none⟩ = some (.slice Av L.length cv) := i6.cell 0
          have c15 : W2.cell? ⟨w6.heap.size + 1, 0, none⟩ = some (.int .i64 (n : Nat)) := j15.cell 0
          have g15 := j15.frozen 0
          clear i3 i4 i6
          gi_wp2_with fail
          exact ⟨((kf_below hbq).trans (kf_set _ _ _ _)), fun hp => by
            obtain ⟨h1, _, _⟩ := stab_round HOFF.out.symm HS.out HH.out hn (fun h => absurd h hn1) hp
            exact hn1 h1⟩
    case done =>
      rintro D ys W hD rfl hI hK
      obtain ⟨n, -, hBW⟩ := hI
      have HBW := Lib.hid (bstep HB7.out (hBW.mono (by omega)))
      have HA3 := Lib.hid (HT4.out.below hBW (by omega))
      have HK := Lib.hid hK
      clear hK hBW hA hr hQl b15 bq bo
      go_wp2_with fail
      refine (known_any _).mono ?_
      rintro e W9 ⟨rfl, hb9⟩
      have hA9 := HA3.out.below hb9 HA3.out.lt
      have f2 : W9.cell? ⟨w.heap.size + 1, 0, none⟩ = some (.bool false) := hA9.cell 0
      have ff2 := hA9.frozen 0
      have HA9 := Lib.hid hA9
      have HK9 := Lib.hid ((hb9.block _ (Array.getElem?_eq_some_iff.1 HK.out).1).trans HK.out)
      have HB9 := Lib.hid (bstep HBW.out hb9)
      clear hA9 hb9
      go_wp2_with fail
      obtain ⟨g1, rf, hbf⟩ := leave1 HA9.out HK9.out HB9.out (by omega) (by omega)
      refine ⟨by simp, .inl ⟨_, _, rfl, run_takeDeferred g1, ?_⟩⟩
      exact ⟨.bool true, by simp [results, Try.results9, go_sem, rf], rfl, hbf⟩
    case stop =>
      rintro D c pre W hD hpre hx
      exact absurd hpre hx
end Go.Proofs.Ytmimfhjmhlmibaa
