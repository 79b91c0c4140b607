/- The walks of FromCivil and ToCivil, and of the reference's From and To. -/
import Derived.Test.YtajebigjcggnfaaBase
import Derived.Deep.QuietTactic
import Derived.BigQuiet
import Derived.Deep.RegionHeld3
import Derived.Deep.DrawnRows
namespace Go.Proofs.Ytajebigjcggnfaa
open Go.RowKit
set_option linter.unusedVariables false
attribute [local go_sem ↓] Go.wp_at_zero Go.wp_at_succ

theorem bcell {W w1 : World} (hb : Below W.heap.size W w1) : (∀ b o, b < W.heap.size → w1.cell? ⟨b, o, none⟩ = W.cell? ⟨b, o, none⟩) ∧ (∀ b o, b < W.heap.size → w1.frozen? ⟨b, o, none⟩ = W.frozen? ⟨b, o, none⟩) :=
  ⟨fun b o h => hb.cell (p := ⟨b, o, none⟩) h, fun b o h => hb.frozen (p := ⟨b, o, none⟩) h⟩
theorem below_drewN {B : Nat} {a w : World} (h : Below B a w) (n : Nat) : Below B a (w.drewN n) := ⟨h.os, h.tape, h.output, h.size, h.block⟩

theorem bstep {W X w1 : World} (h : Below W.heap.size W X) (hb : Below X.heap.size X w1) : Below W.heap.size W w1 := h.trans (hb.mono h.size)
theorem quiet_left {P : Program} {f : FuncId} {args : Array Value} {w : World} {n : Nat} {v : Value}
    (h : Calls P f args (w.drewN n) fun e w' => e = .returned v ∧ w.drewN n = w') : Calls P f args (w.drewN n) fun e w'' => e = .returned v ∧ ∃ m, w'' = w.drewN m :=
  h.mono fun _ _ ⟨he, hm⟩ => ⟨he, n, hm.symm⟩
theorem quiet_same {P : Program} {f : FuncId} {args : Array Value} {w : World} {v : Value}
    (h : Calls P f args w fun e w' => e = .returned v ∧ w = w') : Calls P f args w fun e w'' => e = .returned v ∧ w'' = w :=
  h.mono fun _ _ ⟨he, hm⟩ => ⟨he, hm.symm⟩
theorem quiet_add_left {P : Program} {f : FuncId} {args : Array Value} {w : World} {a n : Nat} {v : Value}
    (h : Calls P f args (w.drewN (a + n)) fun e w' => e = .returned v ∧ w.drewN (a + n) = w') :
    Calls P f args (w.drewN (a + n)) fun e w'' => e = .returned v ∧ ∃ m, w'' = w.drewN (a + m) :=
  h.mono fun _ _ ⟨he, hm⟩ => ⟨he, n, hm.symm⟩

/-- block g is just the cells cs, none frozen -/
def At (w : World) (g : Nat) (t : TypeId) (cs : Array Value) : Prop := w.heap[g]? = some (.cells cs t (0, 0))
theorem At.lt {w : World} {g : Nat} {t : TypeId} {cs : Array Value} (h : At w g t cs) : g < w.heap.size := by
  rcases Nat.lt_or_ge g w.heap.size with hlt | hge
  · exact hlt
  · unfold At at h; rw [Array.getElem?_eq_none hge] at h; cases h
theorem At.cell {w : World} {g : Nat} {t : TypeId} {cs : Array Value} (h : At w g t cs) (i : Nat) : w.cell? ⟨g, i, none⟩ = cs[i]? := cell_of_row w g i cs t (0, 0) h
theorem At.frozen {w : World} {g : Nat} {t : TypeId} {cs : Array Value} (h : At w g t cs) (i : Nat) : w.frozen? ⟨g, i, none⟩ = false := by
  unfold At at h
  simp [World.frozen?, h]
theorem At.new (w : World) (t : TypeId) (cs : Array Value) : At (w.alloc (.cells cs t)) w.heap.size t cs := heap_alloc_new w _
theorem At.drew {w : World} {g : Nat} {t : TypeId} {cs : Array Value} (h : At w g t cs) : At w.drew g t cs := h
theorem At.drewN {w : World} {g : Nat} {t : TypeId} {cs : Array Value} (h : At w g t cs) (n : Nat) : At (w.drewN n) g t cs := h
theorem At.alloc {w : World} {g : Nat} {t : TypeId} {cs : Array Value} (h : At w g t cs) (o : Obj) : At (w.alloc o) g t cs := (Below.heap_alloc w o g h.lt).trans h
theorem At.set {w : World} {g : Nat} {t : TypeId} {cs : Array Value} (h : At w g t cs) (i : Nat) (u : Value) : At (w.setCell ⟨g, i, none⟩ u) g t (cs.setIfInBounds i u) := by
  unfold At at h ⊢
  simp [World.setCell, Array.getElem?_modify, h]
theorem At.far {w : World} {g : Nat} {t : TypeId} {cs : Array Value} (h : At w g t cs) {p : Addr} (hp : g ≠ p.block) (u : Value) : At (w.setCell p u) g t cs := (Below.heap_setCell w p u g hp).trans h
theorem At.below {w w' : World} {g : Nat} {t : TypeId} {cs : Array Value} {B : Nat} (h : At w g t cs) (hb : Below B w w') (hg : g < B) : At w' g t cs := (hb.block g hg).trans h
/-- its three cells, as the walk reads them -/
theorem At.three {w : World} {g : Nat} {t : TypeId} {x y z : Value} (h : At w g t #[x, y, z]) : w.cell? ⟨g, 0, none⟩ = some x ∧ w.cell? ⟨g, 1, none⟩ = some y ∧ w.cell? ⟨g, 2, none⟩ = some z ∧
    w.frozen? ⟨g, 0, none⟩ = false ∧ w.frozen? ⟨g, 1, none⟩ = false ∧ w.frozen? ⟨g, 2, none⟩ = false := ⟨h.cell 0, h.cell 1, h.cell 2, h.frozen 0, h.frozen 1, h.frozen 2⟩

set_option maxHeartbeats 1000000 in
theorem from_no (y m d : Int) (w : World) (h : ¬ Cal.vld y m d) :
    Calls Try.prog 20 #[.agg #[.int .i64 y, .int .i64 m, .int .i64 d]] w fun e w' => e = .returned (.tuple #[.int .i64 0, .int .i64 28]) ∧ Below w.heap.size w w' := by
  by_cases h1 : d < 1
  · go_enter Try.func20, Try.ntmps20
    go_wp2
    go_quiet (fail)
    go_wp2
    go_ret2
    exact ⟨rfl, below_drewN ((Below.refl _ _).alloc (Nat.le_refl _) _) _⟩
  · have hd : decide (d < 1) = false := by simpa using h1
    by_cases hv : 2000 ≤ y ∧ y ≤ 2199 ∧ 1 ≤ m ∧ m ≤ 12
    · have hl : Cal.len y m < d := by
        unfold Cal.vld at h; omega
      obtain ⟨v1, v2, v3, v4⟩ := hv
      clear h
      go_enter Try.func20, Try.ntmps20
      go_wp2_with fail
      go_region_held3 (fun w' => w'.cell? ⟨w.heap.size, 0, none⟩ = some (.int .i64 y) ∧ w'.cell? ⟨w.heap.size, 1, none⟩ = some (.int .i64 m) ∧ w'.cell? ⟨w.heap.size, 2, none⟩ = some (.int .i64 d)) (go_keep)
        (first | (go_at_call 26; refine (dim _ _ _ (by omega) (by omega) (by omega) (by omega)).mono ?_; rintro e w1 ⟨rfl, hb⟩; obtain ⟨hc, hf⟩ := bcell hb))
      go_wp2
      go_ret2
      exact ⟨rfl, bstep (((Below.refl _ _).alloc (Nat.le_refl _) _).drew) hb⟩
    · go_enter Try.func20, Try.ntmps20
      go_wp2_with fail
      go_region_held3 (fun w' => w'.cell? ⟨w.heap.size, 0, none⟩ = some (.int .i64 y) ∧ w'.cell? ⟨w.heap.size, 1, none⟩ = some (.int .i64 m) ∧ w'.cell? ⟨w.heap.size, 2, none⟩ = some (.int .i64 d)) (go_keep)
        (first | (go_at_call 26; refine (dim_no _ _ _ hv).mono ?_; rintro e w1 ⟨rfl, rfl⟩))
      go_wp2
      go_ret2
      exact ⟨rfl, ((Below.refl _ _).alloc (Nat.le_refl _) _).drew⟩

set_option maxHeartbeats 1000000 in
theorem from_ok (y m d : Int) (w : World) (h : Cal.vld y m d) :
    Calls Try.prog 20 #[.agg #[.int .i64 y, .int .i64 m, .int .i64 d]] w fun e w' => e = .returned (.tuple #[.int .i64 (Cal.num y m d), .int .i64 0]) ∧ Below w.heap.size w w' := by
  obtain ⟨v1, v2, v3, v4, v5, v6⟩ := h
  have hd : decide (d < 1) = false := by simp; omega
  have hd' : ¬ d < 1 := by omega
  obtain ⟨ys1, ys2⟩ := Cal.ys_bd y (by omega) (by omega)
  have len2 := (Cal.len_bd y m v3 v4).2
  go_enter Try.func20, Try.ntmps20
  go_wp2_with fail
  go_region_held3 (fun w' => w'.cell? ⟨w.heap.size, 0, none⟩ = some (.int .i64 y) ∧ w'.cell? ⟨w.heap.size, 1, none⟩ = some (.int .i64 m) ∧ w'.cell? ⟨w.heap.size, 2, none⟩ = some (.int .i64 d)) (go_keep)
    (first | (go_at_call 26; refine (dim _ _ _ (by omega) (by omega) (by omega) (by omega)).mono ?_; rintro e w1 ⟨rfl, hb⟩; obtain ⟨hc, hf⟩ := bcell hb))
  go_wp2_with fail
  go_quiet ((go_at_call 44; exact quiet_left (ystart _ _ (by omega) (by omega))))
  go_wp2_with fail
  have hB : Below w.heap.size w w1 := bstep (((Below.refl _ _).alloc (Nat.le_refl _) _).drew) hb
  have hz : w.heap.size < w1.heap.size := by have := hb.size; simp at this; omega
  have hc0 : w1.cell? ⟨w.heap.size, 0, none⟩ = some (.int .i64 y) ∧ w1.cell? ⟨w.heap.size, 1, none⟩ = some (.int .i64 m) ∧ w1.cell? ⟨w.heap.size, 2, none⟩ = some (.int .i64 d) := by assumption
  clear hb hc hf
  go_loopw [4, 5] (fun t4 t5 wr => ∃ k : Int, 1 ≤ k ∧ k ≤ m ∧ t5 = .int .i64 k ∧ t4 = .int .i64 (Cal.ys y + d - 1 + Cal.cum y k) ∧ Below w.heap.size w wr ∧ w.heap.size < wr.heap.size ∧
      wr.cell? ⟨w.heap.size, 0, none⟩ = some (.int .i64 y) ∧ wr.cell? ⟨w.heap.size, 1, none⟩ = some (.int .i64 m) ∧ wr.cell? ⟨w.heap.size, 2, none⟩ = some (.int .i64 d)) (fun _ t5 _ => (12 - intOf t5).toNat)
  case atStart => exact ⟨1, by omega, by omega, rfl, by rw [Cal.cum_one]; simp, below_drewN hB _, hz, hc0⟩
  case round =>
    obtain ⟨k, k1, k2, rfl, rfl, hB2, hz2, c0, c1, c2⟩ := hrel
    have cb := Cal.cum_bd y k (by omega) (by omega)
    have lb := Cal.len_bd y k (by omega) (by omega)
    have cs := Lib.hid (Cal.cum_succ y k)
    clear hB hz hc0
    by_cases hk : k < m
    · go_wp2_with fail
      refine (dim _ _ _ (by omega) (by omega) (by omega) (by omega)).mono ?_
      rintro e w2 ⟨rfl, hb⟩
      obtain ⟨hc, hf⟩ := bcell hb
      go_wp2
      go_roundw
      case rel => exact ⟨k + 1, by omega, by omega, rfl, by rw [cs.out]; go_num, bstep hB2 hb, by have := hb.size; omega, by rw [hc _ _ hz2, c0], by rw [hc _ _ hz2, c1], by rw [hc _ _ hz2, c2]⟩
      case measure => simp [intOf]; omega
    · obtain rfl : k = m := by omega
      go_wp2
      go_ret2
      exact ⟨by simp [Cal.num]; omega, hB2⟩

set_option maxHeartbeats 1000000 in
theorem to_no (n : Int) (w : World) (h : n < 0 ∨ 73048 < n) :
    Calls Try.prog 15 #[.int .i64 n] w fun e w' => e = .returned (.tuple #[.agg #[.int .i64 0, .int .i64 0, .int .i64 0], .int .i64 2]) ∧ Below w.heap.size w w' := by
  go_enter Try.func15, Try.ntmps15
  go_wp2_with (go_at_call 17; refine (valid_no _ _ h).mono ?_; rintro e w' ⟨rfl, rfl⟩)
  exact bodyPost_ret (v := .tuple #[.agg #[.int .i64 0, .int .i64 0, .int .i64 0], .int .i64 2]) (by simp [results, Try.results15, go_sem]) rfl ⟨rfl, (Below.refl _ _).alloc (Nat.le_refl _) _⟩

set_option maxHeartbeats 1000000 in
theorem to_ok (n y m d : Int) (w : World) (h : Cal.vld y m d) (hn : Cal.num y m d = n) :
    Calls Try.prog 15 #[.int .i64 n] w fun e w' => e = .returned (.tuple #[.agg #[.int .i64 y, .int .i64 m, .int .i64 d], .int .i64 0]) ∧ Below w.heap.size w w' := by
  obtain ⟨n1, n2⟩ := Cal.num_range h
  obtain ⟨b1, b2⟩ := Cal.num_bd h
  rw [hn] at n1 n2 b1 b2
  have H := Lib.hid h
  have HN := Lib.hid hn
  clear h hn
  have g0 := Cal.ys_guess n n1
  go_enter Try.func15, Try.ntmps15
  go_wp2_with (go_at_call 17; refine (valid_yes _ _ (by omega) (by omega)).mono ?_; rintro e w' ⟨rfl, rfl⟩)
  go_loop [4] (fun t => ∃ Y : Int, 2000 ≤ Y ∧ Y ≤ 2199 ∧ Cal.ys Y ≤ n ∧ t = .int .i64 Y) (fun t => (2199 - intOf t).toNat)
  case atStart => exact ⟨_, by omega, Cal.year_le g0 n2, g0, rfl⟩
  case round =>
    obtain ⟨Y, hy1, hy2, hy3, rfl⟩ := hrel
    clear g0
    by_cases hc : Cal.ys (Y + 1) ≤ n
    · have hy4 : Y < 2199 := by have := Cal.year_le hc n2; omega
      go_wp2_with (go_at_call 44; refine (ystart _ _ (by omega) (by omega)).mono ?_; rintro e w' ⟨rfl, rfl⟩)
      go_round
      case rel => exact ⟨Y + 1, by omega, by omega, hc, rfl⟩
      case measure => simp [intOf]; omega
    · obtain rfl : Y = y := Cal.year_of hy3 (by omega) b1 b2
      clear hy3
      have yb := Cal.ys_bd Y (by omega) (by omega)
      go_wp2_with (go_at_call 44; refine (ystart _ _ (by omega) (by omega)).mono ?_; rintro e w' ⟨rfl, rfl⟩)
      go_loopw [5, 6] (fun t5 t6 wr => ∃ k : Int, 1 ≤ k ∧ k ≤ 12 ∧ t6 = .int .i64 k ∧ 0 ≤ n - Cal.ys Y - Cal.cum Y k ∧ t5 = .int .i64 (n - Cal.ys Y - Cal.cum Y k) ∧
          Below (w.alloc (Obj.cells #[Value.int IntKind.i64 0, Value.int IntKind.i64 0, Value.int IntKind.i64 0] 26)).heap.size (w.alloc (Obj.cells #[Value.int IntKind.i64 0, Value.int IntKind.i64 0, Value.int IntKind.i64 0] 26)) wr) (fun _ t6 _ => (12 - intOf t6).toNat)
      case atStart => exact ⟨1, by omega, by omega, rfl, by rw [Cal.cum_one]; omega, by rw [Cal.cum_one]; simp, Below.refl _ _⟩
      case round =>
        obtain ⟨k, k1, k2, rfl, hr, rfl, hB⟩ := hrel
        have cb := Cal.cum_bd Y k (by omega) (by omega)
        have lb := Cal.len_bd Y k (by omega) (by omega)
        have cs := Lib.hid (Cal.cum_succ Y k)
        by_cases hlt : Cal.len Y k ≤ n - Cal.ys Y - Cal.cum Y k
        · have k3 : k < 12 := by
            by_cases e : k = 12
            · subst e
              have h13 := Cal.cum_13 Y
              have hs := Cal.ys_succ Y
              have := cs.out
              rw [show (12 : Int) + 1 = 13 from rfl] at this
              omega
            · omega
          go_wp2_with fail
          refine (dim _ _ _ (by omega) (by omega) (by omega) (by omega)).mono ?_
          rintro e w2 ⟨rfl, hb⟩
          go_wp2_with fail
          refine (dim _ _ _ (by omega) (by omega) (by omega) (by omega)).mono ?_
          rintro e w3 ⟨rfl, hb3⟩
          go_wp2
          go_roundw
          case rel => exact ⟨k + 1, by omega, by omega, rfl, by rw [cs.out]; omega, by rw [cs.out]; go_num, bstep (bstep hB hb) hb3⟩
          case measure => simp [intOf]; omega
        · have hv : Cal.vld Y k (n - Cal.ys Y - Cal.cum Y k + 1) := ⟨by omega, by omega, k1, k2, by omega, by omega⟩
          obtain ⟨-, rfl, hd⟩ := Cal.num_inj hv H.out (by rw [HN.out]; unfold Cal.num; omega)
          have HD := Lib.hid hd
          clear hv hd
          go_wp2_with fail
          refine (dim _ _ _ (by omega) (by omega) (by omega) (by omega)).mono ?_
          rintro e w2 ⟨rfl, hb⟩
          obtain ⟨hc', hf'⟩ := bcell (bstep hB hb)
          have hz : w.heap.size < w2.heap.size := by have := (bstep hB hb).size; simp at this; omega
          go_wp2
          refine bodyPost_ret (v := .tuple #[.agg #[.int .i64 Y, .int .i64 k, .int .i64 (n - Cal.ys Y - Cal.cum Y k + 1)], .int .i64 0]) (by simp [results, Try.results15, go_sem, hc']) rfl ⟨by rw [HD.out], ?_⟩
          exact (((bstep ((Below.refl _ _).alloc (Nat.le_refl _) _) (bstep hB hb)).setCell (Nat.le_refl _) _).setCell (Nat.le_refl _) _).setCell (Nat.le_refl _) _

set_option maxHeartbeats 1000000 in
/-- the reference's To -/
theorem rto (n y m d : Int) (w : World) (h : Cal.vld y m d) (hn : Cal.num y m d = n) :
    Calls Try.prog 19 #[.int .i64 n] w fun e w' => e = .returned (.agg #[.int .i64 y, .int .i64 m, .int .i64 d]) ∧ Below w.heap.size w w' := by
  obtain ⟨n1, n2⟩ := Cal.num_range h
  obtain ⟨b1, b2⟩ := Cal.num_bd h
  rw [hn] at n1 n2 b1 b2
  have H := Lib.hid h
  have HN := Lib.hid hn
  clear h hn
  go_enter Try.func19, Try.ntmps19
  go_wp2_with fail
  go_loopw [0] (fun t wr => ∃ Y : Int, 2000 ≤ Y ∧ Y ≤ 2199 ∧ Cal.ys Y ≤ n ∧ t = .int .i64 (n - Cal.ys Y) ∧ Below w.heap.size w wr ∧
      At wr w.heap.size 32 #[.int .i64 0, .int .i64 0, .int .i64 0] ∧ At wr (w.heap.size + 1) 32 #[.int .i64 Y, .int .i64 1, .int .i64 1]) (fun t _ => (intOf t).toNat)
  case atStart =>
    exact ⟨2000, by omega, by omega, by rw [Cal.ys_2000]; omega, by rw [Cal.ys_2000]; simp, ((Below.refl _ _).alloc (Nat.le_refl _) _).alloc (by simp) _, (At.new _ _ _).alloc _, by have h := At.new (w.alloc (Obj.cells #[Value.int IntKind.i64 0, Value.int IntKind.i64 0, Value.int IntKind.i64 0] 32)) 32 #[Value.int IntKind.i64 2000, Value.int IntKind.i64 1, Value.int IntKind.i64 1]; simpa using h⟩
  case round =>
    obtain ⟨Y, hy1, hy2, hy3, rfl, hB, hA, hC⟩ := hrel
    obtain ⟨c0, c1, c2, f0, f1, f2⟩ := hC.three
    have yb := Cal.ys_bd Y (by omega) (by omega)
    have ysucc := Lib.hid (Cal.ys_succ Y)
    have elp := lpB_lp Y
    by_cases hc : Cal.ys (Y + 1) ≤ n
    · have hy4 : Y < 2199 := by have := Cal.year_le hc n2; omega
      cases hb : lpB Y
      all_goals
        rw [hb] at elp
        simp only [Bool.false_eq_true, if_false, if_true] at elp
        have hle : Cal.ys Y + 365 + Cal.lp Y ≤ n := by rw [← ysucc.out]; exact hc
        rw [elp] at hle
        have ELP := Lib.hid elp
        have HB := Lib.hid hb
        clear hb elp
        go_wp2_with (go_at_call 25; refine (rleap_pos _ _ (by omega)).mono ?_; rintro e w' ⟨rfl, rfl⟩; rw [HB.out])
        go_roundw
        case rel => exact ⟨Y + 1, by omega, by omega, hc, by rw [ysucc.out, ELP.out]; go_num, hB.setCell (by simp) _, hA.far (by simp) _, hC.set 0 _⟩
        case measure => simp [intOf]; omega
    · obtain rfl : Y = y := Cal.year_of hy3 (by omega) b1 b2
      cases hb : lpB Y
      all_goals
        rw [hb] at elp
        simp only [Bool.false_eq_true, if_false, if_true] at elp
        have hgt : n < Cal.ys Y + 365 + Cal.lp Y := by rw [← ysucc.out]; exact b2
        rw [elp] at hgt
        have ELP := Lib.hid elp
        have HB := Lib.hid hb
        clear hb elp
        first | (have hgt' : n - Cal.ys Y < 365 := by omega) | (have hgt' : n - Cal.ys Y < 366 := by omega)
        clear hgt
        go_wp2_with (go_at_call 25; refine (rleap_pos _ _ (by omega)).mono ?_; rintro e w' ⟨rfl, rfl⟩; rw [HB.out])
        go_loopw [0] (fun t wr => ∃ k : Int, 1 ≤ k ∧ k ≤ 12 ∧ 0 ≤ n - Cal.ys Y - Cal.cum Y k ∧ t = .int .i64 (n - Cal.ys Y - Cal.cum Y k) ∧ Below w.heap.size w wr ∧
            At wr w.heap.size 32 #[.int .i64 0, .int .i64 0, .int .i64 0] ∧ At wr (w.heap.size + 1) 32 #[.int .i64 Y, .int .i64 k, .int .i64 1]) (fun t _ => (intOf t).toNat)
        case atStart => exact ⟨1, by omega, by omega, by rw [Cal.cum_one]; omega, by rw [Cal.cum_one]; simp, hB, hA, hC⟩
        case round =>
          clear c0 c1 c2 f0 f1 f2 hC hA hB
          obtain ⟨k, k1, k2, hr, rfl, hB, hA, hC⟩ := hrel
          obtain ⟨c0, c1, c2, f0, f1, f2⟩ := hC.three
          have cb := Cal.cum_bd Y k (by omega) (by omega)
          have lb := Cal.len_bd Y k (by omega) (by omega)
          have cs := Lib.hid (Cal.cum_succ Y k)
          by_cases hlt : Cal.len Y k ≤ n - Cal.ys Y - Cal.cum Y k
          · have k3 : k < 12 := by
              by_cases e : k = 12
              · subst e
                have h13 := Cal.cum_13 Y
                have := cs.out
                have := ELP.out
                rw [show (12 : Int) + 1 = 13 from rfl] at *
                omega
              · omega
            go_wp2_with (go_at_call 27; refine (rlen _ _ _ (by omega) (by omega) (by omega) (by omega)).mono ?_; rintro e w' ⟨rfl, rfl⟩)
            go_roundw
            case rel => exact ⟨k + 1, by omega, by omega, by rw [cs.out]; omega, by rw [cs.out]; go_num, hB.setCell (by simp) _, hA.far (by simp) _, hC.set 1 _⟩
            case measure => simp [intOf]; omega
          · have hv : Cal.vld Y k (n - Cal.ys Y - Cal.cum Y k + 1) := ⟨by omega, by omega, k1, k2, by omega, by omega⟩
            obtain ⟨-, rfl, hd⟩ := Cal.num_inj hv H.out (by rw [HN.out]; unfold Cal.num; omega)
            have HD := Lib.hid hd
            clear hv hd
            obtain ⟨a0, a1, a2, g0, g1, g2⟩ := hA.three
            go_wp2_with (go_at_call 27; refine (rlen _ _ _ (by omega) (by omega) (by omega) (by omega)).mono ?_; rintro e w' ⟨rfl, rfl⟩)
            refine bodyPost_ret (v := .agg #[.int .i64 Y, .int .i64 k, .int .i64 (n - Cal.ys Y - Cal.cum Y k + 1)]) (by simp [results, Try.results19, go_sem, a0, a1, a2]; try omega) rfl ⟨by rw [HD.out], ?_⟩
            repeat (first | exact hB | refine Below.setCell ?_ (by simp) _)

set_option maxHeartbeats 1000000 in
/-- the reference's From, at a valid date -/
theorem rfrom (y m d : Int) (w : World) (h : Cal.vld y m d) :
    Calls Try.prog 23 #[.agg #[.int .i64 y, .int .i64 m, .int .i64 d]] w fun e w' => e = .returned (.int .i64 (Cal.num y m d)) ∧ Below w.heap.size w w' := by
  obtain ⟨v1, v2, v3, v4, v5, v6⟩ := h
  obtain ⟨ys1, ys2⟩ := Cal.ys_bd y (by omega) (by omega)
  have len2 := (Cal.len_bd y m v3 v4).2
  obtain ⟨cc1, cc2⟩ := Cal.cum_bd y m (by omega) (by omega)
  have hB : Below w.heap.size w (w.alloc (Obj.cells #[Value.int IntKind.i64 y, Value.int IntKind.i64 m, Value.int IntKind.i64 d] 32)) := (Below.refl _ _).alloc (Nat.le_refl _) _
  go_enter Try.func23, Try.ntmps23
  go_wp2_with fail
  go_loop [3, 4] (fun t3 t4 => ∃ Y : Int, 2000 ≤ Y ∧ Y ≤ y ∧ t4 = .int .i64 Y ∧ t3 = .int .i64 (Cal.ys Y)) (fun _ t4 => (2199 - intOf t4).toNat)
  case atStart => exact ⟨2000, by omega, by omega, rfl, by rw [Cal.ys_2000]⟩
  case round =>
    obtain ⟨Y, hy1, hy2, rfl, rfl⟩ := hrel
    have yb := Cal.ys_bd Y (by omega) (by omega)
    have ysucc := Lib.hid (Cal.ys_succ Y)
    have elp := lpB_lp Y
    by_cases hc : Y < y
    · cases hb : lpB Y
      all_goals
        rw [hb] at elp
        simp only [Bool.false_eq_true, if_false, if_true] at elp
        have ELP := Lib.hid elp
        have HB := Lib.hid hb
        clear hb elp
        go_wp2_with (go_at_call 25; refine (rleap_pos _ _ (by omega)).mono ?_; rintro e w' ⟨rfl, rfl⟩; rw [HB.out])
        go_round
        case rel => exact ⟨Y + 1, by omega, by omega, rfl, by rw [ysucc.out, ELP.out]; try go_num⟩
        case measure => simp [intOf]; omega
    · obtain rfl : Y = y := by omega
      clear elp hy1 hy2
      go_wp2_with fail
      go_loop [3, 5] (fun t3 t5 => ∃ k : Int, 1 ≤ k ∧ k ≤ m ∧ t5 = .int .i64 k ∧ t3 = .int .i64 (Cal.ys Y + Cal.cum Y k)) (fun _ t5 => (12 - intOf t5).toNat)
      case atStart => exact ⟨1, by omega, by omega, rfl, by rw [Cal.cum_one]; simp⟩
      case round =>
        obtain ⟨k, k1, k2, rfl, rfl⟩ := hrel
        have cb := Cal.cum_bd Y k (by omega) (by omega)
        have lb := Cal.len_bd Y k (by omega) (by omega)
        have cs := Lib.hid (Cal.cum_succ Y k)
        by_cases hk : k < m
        · go_wp2_with (go_at_call 27; refine (rlen _ _ _ (by omega) (by omega) (by omega) (by omega)).mono ?_; rintro e w' ⟨rfl, rfl⟩)
          go_round
          case rel => exact ⟨k + 1, by omega, by omega, rfl, by rw [cs.out]; go_num⟩
          case measure => simp [intOf]; omega
        · obtain rfl : k = m := by omega
          go_wp2
          go_ret
          exact ⟨by simp [Cal.num], hB⟩

set_option maxHeartbeats 1000000 in
/-- the reference's Valid -/
theorem rvalid_yes (y m d : Int) (w : World) (h : Cal.vld y m d) :
    Calls Try.prog 22 #[.agg #[.int .i64 y, .int .i64 m, .int .i64 d]] w fun e w' => e = .returned (.bool true) ∧ Below w.heap.size w w' := by
  obtain ⟨v1, v2, v3, v4, v5, v6⟩ := h
  have hd : decide (1 ≤ d) = true := by simpa using v5
  have c0 : ∀ n : Nat, ((w.alloc (Obj.cells #[Value.int IntKind.i64 y, Value.int IntKind.i64 m, Value.int IntKind.i64 d] 32)).drewN n).heap.size = w.heap.size + 1 := by intro n; simp
  go_enter Try.func22, Try.ntmps22
  go_wp2_with fail
  go_quiet ((go_at_call 27; exact quiet_left (rlen _ _ _ (by omega) (by omega) (by omega) (by omega))))
  go_wp2
  go_ret
  exact ⟨rfl, below_drewN ((Below.refl _ _).alloc (Nat.le_refl _) _) _⟩
set_option maxHeartbeats 1000000 in
theorem rvalid_no (y m d : Int) (w : World) (h : ¬ Cal.vld y m d) :
    Calls Try.prog 22 #[.agg #[.int .i64 y, .int .i64 m, .int .i64 d]] w fun e w' => e = .returned (.bool false) ∧ Below w.heap.size w w' := by
  by_cases h1 : d < 1
  · have hd : decide (1 ≤ d) = false := by simpa using h1
    have hd' : ¬ 1 ≤ d := by omega
    go_enter Try.func22, Try.ntmps22
    go_wp2_with fail
    go_quiet (fail)
    go_wp2
    go_ret
    exact ⟨rfl, below_drewN ((Below.refl _ _).alloc (Nat.le_refl _) _) _⟩
  · have hd' : 1 ≤ d := by omega
    have hd : decide (1 ≤ d) = true := by simpa using hd'
    by_cases hv : 2000 ≤ y ∧ y ≤ 2199 ∧ 1 ≤ m ∧ m ≤ 12
    · have hl : Cal.len y m < d := by
        unfold Cal.vld at h; omega
      obtain ⟨v1, v2, v3, v4⟩ := hv
      clear h
      go_enter Try.func22, Try.ntmps22
      go_wp2_with fail
      go_quiet ((go_at_call 27; exact quiet_left (rlen _ _ _ (by omega) (by omega) (by omega) (by omega))))
      go_wp2
      go_ret
      exact ⟨by simp; omega, below_drewN ((Below.refl _ _).alloc (Nat.le_refl _) _) _⟩
    · go_enter Try.func22, Try.ntmps22
      go_wp2_with fail
      go_quiet ((go_at_call 27; exact quiet_left (rlen_no _ _ _ hv)))
      go_wp2
      go_ret
      exact ⟨by simp; omega, below_drewN ((Below.refl _ _).alloc (Nat.le_refl _) _) _⟩
end Go.Proofs.Ytajebigjcggnfaa
