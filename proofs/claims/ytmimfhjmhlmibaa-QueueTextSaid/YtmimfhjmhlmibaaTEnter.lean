/- insert of the queue of texts. -/
import Derived.Test.YtmimfhjmhlmibaaTQu
namespace Go.Proofs.Ytmimfhjmhlmibaa.T
open Go.RowKit Go.MapKept Go.ChangeMaps
set_option linter.unusedVariables false
attribute [local go_sem ↓] Go.wp_at_zero Go.wp_at_succ

/-- behind the row's turn -/
def EnterMid (q g m1 m2 : Nat) (x : E) (l : List E) (wr wx : World) : Prop :=
  ∃ g' cap' : Nat, At wx q 75 #[.slice (some ⟨g', 0, none⟩) (l.length + 1) cap', .map (some m1), .map (some m2)] ∧ RowAt wx g' cap' (insP x l) ∧ cap' ≤ 9223372036854775807 ∧ (g' = g ∨ wr.heap.size ≤ g') ∧
    (g' ≠ q) ∧ Keep (fun r => r = q ∨ (r = g ∧ r ≠ m1 ∧ r ≠ m2)) wr wx

theorem find_at {w W : World} {q g m1 m2 : Nat} {l : List E} (h : Qu w q g m1 m2 l) (hb : Below w.heap.size w W) (p s : Int) (hl : l.length ≤ 100000) :
    Calls Try.prog 56 #[.pointer (some ⟨q, 0, none⟩), .agg #[.int .i64 p, .int .i64 s]] W fun e w' => e = .returned (.int .i64 (lb p s l : Nat)) ∧ Below W.heap.size W w' := find_qu (h.below hb) p s hl

theorem Rw.ne {w : World} {q g cap : Nat} {A : Option Addr} {l : List E} {cs : Array Value} (hrw : Rw w A g cap l) (hq : At w q 75 cs) : ¬ (A ≠ none ∧ q = g) := fun ⟨h, e⟩ => by
  rcases hrw with ⟨a, _⟩ | ⟨_, pad, a, _⟩
  · exact h a
  · exact hq.ne a (by decide) e
theorem enter_mid {w W w6 : World} {q g m1 m2 cap g' cap' : Nat} {A : Option Addr} {l : List E} {x : E} {m : Value} (hq : At w q 75 #[m, .map (some m1), .map (some m2)]) (hrw : Rw w A g cap l)
    (h1 : Mp .string w m1 (keysOf l)) (h2 : Mp (.int .i64) w m2 (usedOf l)) (hb : Below w.heap.size w W)
    (hr' : RowAt w6 g' cap' (insP x l)) (hc' : cap' ≤ 9223372036854775807) (hg' : A ≠ none ∧ g' = g ∨ W.heap.size ≤ g') (hk : Keep (fun r => A ≠ none ∧ r = g) W w6) :
    EnterMid q g m1 m2 x l w (w6.setCell ⟨q, 0, none⟩ (.slice (some ⟨g', 0, none⟩) (l.length + 1) cap')) := by
  have hgo : A ≠ none → RowAt w g cap l := fun h => by
    rcases hrw with ⟨a, _⟩ | ⟨_, a⟩
    · exact absurd a h
    · exact a
  have hqg : ¬ (A ≠ none ∧ q = g) := fun ⟨h, e⟩ => by
    obtain ⟨pad, a, _⟩ := hgo h
    exact hq.ne a (by decide) e
  have hqW : At W q 75 #[m, .map (some m1), .map (some m2)] := hq.below hb hq.lt
  have hq6 := hqW.keep hk hqg
  have hq7 := hq6.set 0 (.slice (some ⟨g', 0, none⟩) (l.length + 1) cap')
  have hgq : g' ≠ q := by
    rcases hg' with ⟨a, rfl⟩ | h
    · exact fun e => hqg ⟨a, e.symm⟩
    · have := hqW.lt; omega
  refine ⟨g', cap', by simpa using hq7, ?_, hc', ?_, hgq, ?_⟩
  · exact hr'.held (Below.heap_setCell _ _ _ _ hgq)
  · rcases hg' with ⟨_, h⟩ | h
    · exact .inl h
    · exact .inr (Nat.le_trans hb.size h)
  · refine Keep.then (Z := fun r => r = q ∨ (r = g ∧ r ≠ m1 ∧ r ≠ m2)) (Y := (· = q)) (b := w6) (Keep.then (Keep.of (Z := fun r => r = q ∨ (r = g ∧ r ≠ m1 ∧ r ≠ m2)) hb) hk ?_) (Keep.setCell (Z := (· = q)) rfl _ _) (fun r _ e => .inl e)
    rintro r _ ⟨a, rfl⟩
    exact .inr ⟨rfl, (hgo a).ne_map h1, (hgo a).ne_map h2⟩

def Entered (q g m1 m2 : Nat) (x : E) (l : List E) (w : World) (e : Ending) (w' : World) : Prop :=
  e = .returned (.tuple #[]) ∧ ∃ g', Qu w' q g' m1 m2 (insP x l) ∧ (g' = g ∨ w.heap.size ≤ g') ∧ Keep (ZQ q g m1 m2) w w'

set_option maxRecDepth 100000 in
set_option maxHeartbeats 4000000 in
theorem enter_any (q g m1 m2 : Nat) (l : List E) (x : E) (w : World) (h : Qu w q g m1 m2 l) (hl : l.length ≤ 99999) (h1 : ∀ e ∈ l, e.id ≠ x.id) (h2 : ∀ e ∈ l, e.s ≠ x.s) :
    Calls Try.prog 40 #[.pointer (some ⟨q, 0, none⟩), .agg #[.string x.id, .int .i64 x.p, .int .i64 x.s, .string (bang x.id)]] w (Entered q g m1 m2 x l w) := by
  have H := Lib.hid h
  have H1 := Lib.hid h1
  have H2 := Lib.hid h2
  have hqw := h.qlt
  have hgw := h.row
  clear h h1 h2
  go_enter Try.func40, Try.ntmps40
  go_wp2_with fail
  have hB1 : Below w.heap.size w (w.alloc (.cells #[.string x.id, .int .i64 x.p, .int .i64 x.s, .string (bang x.id)] 82)) := (Below.refl _ _).alloc (Nat.le_refl _) _
  have hX := At.new w 82 #[.string x.id, .int .i64 x.p, .int .i64 x.s, .string (bang x.id)]
  generalize w.alloc (.cells #[.string x.id, .int .i64 x.p, .int .i64 x.s, .string (bang x.id)] 82) = wr at *
  have c0 := hX.cell 0
  have c1 := hX.cell 1
  have c2 := hX.cell 2
  have c3 := hX.cell 3
  simp at c0 c1 c2 c3
  have hs2 := hX.lt
  have hX' := Lib.hid hX
  clear hX
  have hq := H.out.below hB1
  obtain ⟨A, cap, hA, hrw, hcap⟩ := hq.body
  have HQ := Lib.hid hq
  have q0 := hA.cell 0
  simp at q0
  have qf := hA.frozen 0
  have HA := Lib.hid hA
  have HRW := Lib.hid hrw
  have hl' : l.length ≤ 100000 := by omega
  have hlb := lb_le x.p x.s l
  have hne0 := World.new_ne wr ⟨q, 0, none⟩ q0
  have c0a : ∀ o, (wr.alloc o).cell? ⟨w.heap.size, 0, none⟩ = some (.string x.id) := fun o => (World.cell?_alloc_some wr _ o (by rw [c0]; rfl)).trans c0
  have c1a : ∀ o, (wr.alloc o).cell? ⟨w.heap.size, 1, none⟩ = some (.int .i64 x.p) := fun o => (World.cell?_alloc_some wr _ o (by rw [c1]; rfl)).trans c1
  have c2a : ∀ o, (wr.alloc o).cell? ⟨w.heap.size, 2, none⟩ = some (.int .i64 x.s) := fun o => (World.cell?_alloc_some wr _ o (by rw [c2]; rfl)).trans c2
  have c3a : ∀ o, (wr.alloc o).cell? ⟨w.heap.size, 3, none⟩ = some (.string (bang x.id)) := fun o => (World.cell?_alloc_some wr _ o (by rw [c3]; rfl)).trans c3
  have q0a : ∀ o, (wr.alloc o).cell? ⟨q, 0, none⟩ = some (.slice A l.length cap) := fun o => (World.cell?_alloc_some wr ⟨q, 0, none⟩ o (by rw [q0]; rfl)).trans q0
  have d0 := World.new_ne wr ⟨w.heap.size, 0, none⟩ c0
  have d1 := World.new_ne wr ⟨w.heap.size, 1, none⟩ c1
  have d2 := World.new_ne wr ⟨w.heap.size, 2, none⟩ c2
  have d3 := World.new_ne wr ⟨w.heap.size, 3, none⟩ c3
  have hqg : ¬ (A ≠ none ∧ q = g) := HRW.out.ne HA.out
  have hqr : q < wr.heap.size := HA.out.lt
  have hgr : g < wr.heap.size := HQ.out.row
  have hbg : ¬ (A ≠ none ∧ w.heap.size = g) := fun h => by omega
  have hbq : w.heap.size ≠ q := by omega
  have hnew : wr.heap.size < (wr.drew.alloc (.cells (ecells x).toArray 82)).heap.size := by simp
  clear hA hrw hq
  go_upto_region 1 with fail
  go_cut [17] (fun s wx => EnterMid q g m1 m2 x l wr wx)
  case first =>
    go_region_with
      (first
        | (go_at_call 56; refine (find_at HQ.out ?_ x.p x.s hl').mono ?_; (first | exact (Below.refl _ _).drew | exact ((Below.refl _ _).drew).alloc (Nat.le_refl _) _); rintro e w2 ⟨rfl, hb2⟩;
           (first
             | (have nV : At w2 wr.heap.size 82 (ecells x).toArray := (At.new wr.drew 82 (ecells x).toArray).below hb2 hnew; have nB : Below wr.heap.size wr w2 := bstep (((Below.refl wr.heap.size wr).drew).alloc (Nat.le_refl _) (.cells (ecells x).toArray 82)) hb2)
             | (have nV := True.intro; have nB : Below wr.heap.size wr w2 := bstep (Below.refl wr.heap.size wr).drew hb2));
           clear hb2; have nS := nB.size;
           have n0 : w2.cell? ⟨w.heap.size, 0, none⟩ = some (.string x.id) := (nB.cell (p := ⟨w.heap.size, 0, none⟩) hs2).trans c0;
           have n1 : w2.cell? ⟨w.heap.size, 1, none⟩ = some (.int .i64 x.p) := (nB.cell (p := ⟨w.heap.size, 1, none⟩) hs2).trans c1;
           have n2 : w2.cell? ⟨w.heap.size, 2, none⟩ = some (.int .i64 x.s) := (nB.cell (p := ⟨w.heap.size, 2, none⟩) hs2).trans c2;
           have n3 : w2.cell? ⟨w.heap.size, 3, none⟩ = some (.string (bang x.id)) := (nB.cell (p := ⟨w.heap.size, 3, none⟩) hs2).trans c3;
           have nq : w2.cell? ⟨q, 0, none⟩ = some (.slice A l.length cap) := (nB.cell (p := ⟨q, 0, none⟩) hqr).trans q0;
           have n0a : ∀ o, (w2.alloc o).cell? ⟨w.heap.size, 0, none⟩ = some (.string x.id) := fun o => (World.cell?_alloc_some w2 _ o (by rw [n0]; rfl)).trans n0;
           have n1a : ∀ o, (w2.alloc o).cell? ⟨w.heap.size, 1, none⟩ = some (.int .i64 x.p) := fun o => (World.cell?_alloc_some w2 _ o (by rw [n1]; rfl)).trans n1;
           have n2a : ∀ o, (w2.alloc o).cell? ⟨w.heap.size, 2, none⟩ = some (.int .i64 x.s) := fun o => (World.cell?_alloc_some w2 _ o (by rw [n2]; rfl)).trans n2;
           have n3a : ∀ o, (w2.alloc o).cell? ⟨w.heap.size, 3, none⟩ = some (.string (bang x.id)) := fun o => (World.cell?_alloc_some w2 _ o (by rw [n3]; rfl)).trans n3;
           have nqa : ∀ o, (w2.alloc o).cell? ⟨q, 0, none⟩ = some (.slice A l.length cap) := fun o => (World.cell?_alloc_some w2 ⟨q, 0, none⟩ o (by rw [nq]; rfl)).trans nq;
           have e0 := World.new_ne w2 ⟨w.heap.size, 0, none⟩ n0; have e1 := World.new_ne w2 ⟨w.heap.size, 1, none⟩ n1; have e2 := World.new_ne w2 ⟨w.heap.size, 2, none⟩ n2; have e3 := World.new_ne w2 ⟨w.heap.size, 3, none⟩ n3; have eq := World.new_ne w2 ⟨q, 0, none⟩ nq)
        | (go_at_call 55;
           (first
             | (refine (insert_any A g cap _ _ 82 l x _ hlb hl' hcap ?_ (Rw.keep (Z := fun _ => False) HRW.out (.of nB) id) nV).mono ?_; (intro h; omega);
                rintro e w6 ⟨g', cap', rfl, hr6, hc6, hg6, hk6⟩;
                have nX := (hX'.out.below nB hs2).keep hk6 hbg; have nQ := (HA.out.below nB hqr).keep hk6 hqg;
                have nM := enter_mid HA.out HRW.out HQ.out.keys HQ.out.used nB hr6 hc6 hg6 hk6)
             | (refine (insert_any A g cap _ _ 82 l x _ hlb hl' hcap ?_ (Rw.keep (Z := fun _ => False) HRW.out (.of (nB.alloc nS _)) id) (At.new _ _ _)).mono ?_; (intro h; omega);
                rintro e w6 ⟨g', cap', rfl, hr6, hc6, hg6, hk6⟩;
                have nX := (hX'.out.below (nB.alloc nS _) hs2).keep hk6 hbg; have nQ := (HA.out.below (nB.alloc nS _) hqr).keep hk6 hqg;
                have nM := enter_mid HA.out HRW.out HQ.out.keys HQ.out.used (nB.alloc nS _) hr6 hc6 hg6 hk6));
           have m0 : w6.cell? ⟨w.heap.size, 0, none⟩ = some (.string x.id) := nX.cell 0;
           have m1' : w6.cell? ⟨w.heap.size, 1, none⟩ = some (.int .i64 x.p) := nX.cell 1;
           have m2' : w6.cell? ⟨w.heap.size, 2, none⟩ = some (.int .i64 x.s) := nX.cell 2;
           have m3 : w6.cell? ⟨w.heap.size, 3, none⟩ = some (.string (bang x.id)) := nX.cell 3;
           have nX2 := nX.far (p := ⟨q, 0, none⟩) hbq (.slice (some ⟨g', 0, none⟩) (l.length + 1) cap');
           have r0 : (w6.setCell ⟨q, 0, none⟩ (.slice (some ⟨g', 0, none⟩) (l.length + 1) cap')).cell? ⟨w.heap.size, 0, none⟩ = some (.string x.id) := nX2.cell 0;
           have r1 : (w6.setCell ⟨q, 0, none⟩ (.slice (some ⟨g', 0, none⟩) (l.length + 1) cap')).cell? ⟨w.heap.size, 1, none⟩ = some (.int .i64 x.p) := nX2.cell 1;
           have r2 : (w6.setCell ⟨q, 0, none⟩ (.slice (some ⟨g', 0, none⟩) (l.length + 1) cap')).cell? ⟨w.heap.size, 2, none⟩ = some (.int .i64 x.s) := nX2.cell 2;
           have r3 : (w6.setCell ⟨q, 0, none⟩ (.slice (some ⟨g', 0, none⟩) (l.length + 1) cap')).cell? ⟨w.heap.size, 3, none⟩ = some (.string (bang x.id)) := nX2.cell 3;
           have p0 : w6.cell? ⟨q, 0, none⟩ = some (.slice A l.length cap) := nQ.cell 0; have pf := nQ.frozen 0;
           have NM := Lib.hid nM; clear nM nX nQ nX2 hk6 hr6 hc6 hg6))
    all_goals (go_wp2_with fail; go_meet; exact NM.out)
  case rest =>
    obtain ⟨g', cap', hA', hr', hc', hg', hgq, hk⟩ := hcut
    have hm1 : q ≠ m1 := HA.out.ne_map HQ.out.keys
    have hm2 : q ≠ m2 := HA.out.ne_map HQ.out.used
    have h1 : Mp .string wc.drew m1 (keysOf l) := (HQ.out.keys.keep hk (fun h => by omega)).held rfl
    have h2 : Mp (.int .i64) wc.drew m2 (usedOf l) := (HQ.out.used.keep hk (fun h => by omega)).held rfl
    have hXc := (hX'.out.keep hk (fun h => by omega)).drew
    have hAc := hA'.drew
    have hb1 : w.heap.size ≠ m1 := hXc.ne_map h1
    have hb2 : w.heap.size ≠ m2 := hXc.ne_map h2
    have htwo := HQ.out.two
    obtain ⟨o1, v1, n1, r1, i1⟩ := h1.entry (P := Try.prog) (k := .string x.id) und_keys und_string trivial (zero_key _)
    obtain ⟨o2, r2, p1⟩ := i1.store (P := Try.prog) (t := 71) (.agg #[.int .i64 x.p, .int .i64 x.s])
    have h2' : Mp (.int .i64) (setBlock (setBlock wc.drew m1 o1) m1 o2) m2 (usedOf l) := (h2.held (setBlock_other (Ne.symm htwo) _)).held (setBlock_other (Ne.symm htwo) _)
    obtain ⟨o3, v3, n3, r3, i3⟩ := h2'.entry (P := Try.prog) (k := .int .i64 x.s) und_used und_int rfl (zero_bool _)
    obtain ⟨o4, r4, p2⟩ := i3.store (P := Try.prog) (t := 72) (.bool true)
    have kq := keysOf_ins HQ.out.good x H1.out H2.out
    have uq := usedOf_ins HQ.out.good x H1.out H2.out
    have gq := HQ.out.good.ins x H1.out H2.out
    rw [kq] at p1
    rw [uq] at p2
    obtain ⟨W1, hW1⟩ : ∃ W1, setBlock wc.drew m1 o1 = W1 := ⟨_, rfl⟩
    have k1 : Keep (· = m1) wc W1 := by rw [← hW1]; exact (Keep.drew _ _).trans (Keep.setBlock _ _ _)
    rw [hW1] at r1 r2 r3 r4 p1 p2
    obtain ⟨W2, hW2⟩ : ∃ W2, setBlock W1 m1 o2 = W2 := ⟨_, rfl⟩
    have k2 : Keep (· = m1) W1 W2 := by rw [← hW2]; exact Keep.setBlock _ _ _
    rw [hW2] at r2 r3 r4 p1 p2
    obtain ⟨W3, hW3⟩ : ∃ W3, setBlock W2 m2 o3 = W3 := ⟨_, rfl⟩
    have k3 : Keep (· = m2) W2 W3 := by rw [← hW3]; exact Keep.setBlock _ _ _
    rw [hW3] at r3 r4 p2
    obtain ⟨W4, hW4⟩ : ∃ W4, setBlock W3 m2 o4 = W4 := ⟨_, rfl⟩
    have k4 : Keep (· = m2) W3 W4 := by rw [← hW4]; exact Keep.setBlock _ _ _
    rw [hW4] at r4 p2
    have xa := hX'.out.keep hk (fun h => by omega)
    have x1 := xa.keep k1 hb1
    have x2 := x1.keep k2 hb1
    have x3 := x2.keep k3 hb2
    have x4 := x3.keep k4 hb2
    have y1 := hA'.keep k1 hm1
    have y2 := y1.keep k2 hm1
    have y3 := y2.keep k3 hm2
    have y4 := y3.keep k4 hm2
    have hg1 : g' ≠ m1 := hr'.ne_map ((HQ.out.keys.keep hk (fun h => by omega)))
    have hg2 : g' ≠ m2 := hr'.ne_map ((HQ.out.used.keep hk (fun h => by omega)))
    have kA : Keep (fun r => r = m1 ∨ r = m2) wc W4 := (((k1.mono (fun r _ h => .inl h)).trans (k2.mono (fun r _ h => .inl h))).trans (k3.mono (fun r _ h => .inr h))).trans (k4.mono (fun r _ h => .inr h))
    have fin : ∃ g', Qu W4 q g' m1 m2 (insP x l) ∧ (g' = g ∨ w.heap.size ≤ g') ∧ Keep (ZQ q g m1 m2) w W4 := by
      refine ⟨g', ⟨⟨some ⟨g', 0, none⟩, cap', by rw [length_insP]; exact y4, .inr ⟨rfl, hr'.keep kA (fun h => by omega)⟩, hc'⟩, (p1.keep k3 htwo).keep k4 htwo, p2, htwo, Nat.lt_of_lt_of_le hr'.lt kA.size, gq⟩, ?_, ?_⟩
      · rcases hg' with h | h
        · exact .inl h
        · exact .inr (by omega)
      · refine ((Keep.of (Z := ZQ q g m1 m2) hB1).trans (hk.mono ?_)).trans (kA.mono ?_)
        · rintro r _ (rfl | ⟨rfl, _⟩)
          · exact .inl rfl
          · exact .inr (.inl rfl)
        · rintro r _ (rfl | rfl)
          · exact .inr (.inr (.inl rfl))
          · exact .inr (.inr (.inr rfl))
    have FIN := Lib.hid fin
    unfold goInt at r1 r2 r3 r4
    have a0 : wc.cell? ⟨w.heap.size, 0, none⟩ = some (.string x.id) ∧ wc.cell? ⟨w.heap.size, 1, none⟩ = some (.int .i64 x.p) ∧ wc.cell? ⟨w.heap.size, 2, none⟩ = some (.int .i64 x.s) ∧ wc.cell? ⟨q, 1, none⟩ = some (.map (some m1)) ∧ wc.cell? ⟨q, 2, none⟩ = some (.map (some m2)) := ⟨xa.cell 0, xa.cell 1, xa.cell 2, hA'.cell 1, hA'.cell 2⟩
    have a1 : W1.cell? ⟨w.heap.size, 0, none⟩ = some (.string x.id) ∧ W1.cell? ⟨w.heap.size, 1, none⟩ = some (.int .i64 x.p) ∧ W1.cell? ⟨w.heap.size, 2, none⟩ = some (.int .i64 x.s) ∧ W1.cell? ⟨q, 1, none⟩ = some (.map (some m1)) ∧ W1.cell? ⟨q, 2, none⟩ = some (.map (some m2)) := ⟨x1.cell 0, x1.cell 1, x1.cell 2, y1.cell 1, y1.cell 2⟩
    have a2 : W2.cell? ⟨w.heap.size, 0, none⟩ = some (.string x.id) ∧ W2.cell? ⟨w.heap.size, 1, none⟩ = some (.int .i64 x.p) ∧ W2.cell? ⟨w.heap.size, 2, none⟩ = some (.int .i64 x.s) ∧ W2.cell? ⟨q, 1, none⟩ = some (.map (some m1)) ∧ W2.cell? ⟨q, 2, none⟩ = some (.map (some m2)) := ⟨x2.cell 0, x2.cell 1, x2.cell 2, y2.cell 1, y2.cell 2⟩
    have a3 : W3.cell? ⟨w.heap.size, 0, none⟩ = some (.string x.id) ∧ W3.cell? ⟨w.heap.size, 1, none⟩ = some (.int .i64 x.p) ∧ W3.cell? ⟨w.heap.size, 2, none⟩ = some (.int .i64 x.s) ∧ W3.cell? ⟨q, 1, none⟩ = some (.map (some m1)) ∧ W3.cell? ⟨q, 2, none⟩ = some (.map (some m2)) := ⟨x3.cell 0, x3.cell 1, x3.cell 2, y3.cell 1, y3.cell 2⟩
    have a4 : W4.cell? ⟨w.heap.size, 0, none⟩ = some (.string x.id) ∧ W4.cell? ⟨w.heap.size, 1, none⟩ = some (.int .i64 x.p) ∧ W4.cell? ⟨w.heap.size, 2, none⟩ = some (.int .i64 x.s) ∧ W4.cell? ⟨q, 1, none⟩ = some (.map (some m1)) ∧ W4.cell? ⟨q, 2, none⟩ = some (.map (some m2)) := ⟨x4.cell 0, x4.cell 1, x4.cell 2, y4.cell 1, y4.cell 2⟩
    clear fin kA hg1 hg2 y1 y2 y3 y4 x1 x2 x3 x4 xa k1 k2 k3 k4 hW1 hW2 hW3 hW4 p1 p2 kq uq gq i1 i3 h2' h1 h2 hXc hAc htwo hm1 hm2 hb1 hb2 hA' hr' hk hgq hg' hc' hne0 q0a q0 qf d0 d1 d2 d3 c0 c1 c2 c3 hqg hbg hbq hnew hcap
    have A0 := Lib.hid a0
    have A1 := Lib.hid a1
    have A2 := Lib.hid a2
    have A3 := Lib.hid a3
    have A4 := Lib.hid a4
    clear a0 a1 a2 a3 a4
    go_wp2_with fail
    go_region_held3 (fun w' => w'.cell? ⟨w.heap.size, 0, none⟩ = some (.string x.id) ∧ w'.cell? ⟨w.heap.size, 1, none⟩ = some (.int .i64 x.p) ∧ w'.cell? ⟨w.heap.size, 2, none⟩ = some (.int .i64 x.s) ∧ w'.cell? ⟨q, 1, none⟩ = some (.map (some m1)) ∧ w'.cell? ⟨q, 2, none⟩ = some (.map (some m2)))
      (first | exact A0.out | exact A1.out | exact A2.out | exact A3.out | exact A4.out) (fail)
    go_wp2_with fail
    go_end0
    exact ⟨rfl, FIN.out⟩
end Go.Proofs.Ytmimfhjmhlmibaa.T
