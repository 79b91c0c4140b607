/- The iterator of the queue of texts, for every loop body. -/
import Derived.Test.YtmimfhjmhlmibaaTClone
import Derived.RangeFuncNested
import Derived.RangeFuncBound
import Derived.RangeFuncCalls
import Derived.RangeFuncLeaves
import Derived.Shelf.Abstract
import Derived.Shelf.RegionOpen
import Derived.OwnWalkIn
import Derived.TacticsInMore
import Derived.LoopNIn
import Derived.LoopIn
namespace Go.Proofs.Ytmimfhjmhlmibaa.T
open Go.RowKit Go.MapKept Go.ChangeMaps Go.Shelf
set_option linter.unusedVariables false
attribute [local go_sem] Oper.semAt_some

set_option maxRecDepth 100000 in
theorem where_any (p : Option Addr) (f : Fn) (w : World) :
    Calls Try.prog 41 #[.pointer p, .func f #[] #[]] w fun e w' => e = .returned (.func (.func 57) #[] #[.pointer (some ⟨w.heap.size, 0, none⟩), .pointer (some ⟨w.heap.size + 1, 0, none⟩)]) ∧ (w.alloc (.cells #[.pointer p] 31)).alloc (.cells #[.func f #[] #[]] 84) = w' := by
  go_enter Try.func41, Try.ntmps41
  go_wp2_with fail
  go_ret
  exact ⟨rfl, rfl⟩
set_option maxRecDepth 100000 in
theorem all_any (p : Option Addr) (w : World) :
    Calls Try.prog 18 #[.pointer p] w fun e w' => e = .returned (.func (.func 57) #[] #[.pointer (some ⟨w.heap.size, 0, none⟩), .pointer (some ⟨w.heap.size + 1, 0, none⟩)]) ∧ (w.alloc (.cells #[.pointer p] 31)).alloc (.cells #[.func (.func 42) #[] #[]] 84) = w' := by
  go_enter Try.func18, Try.ntmps18
  go_wp2_with fail
  refine (where_any _ _ _).mono ?_
  rintro e w' ⟨rfl, rfl⟩
  go_wp2_with fail
  go_ret
  exact ⟨rfl, rfl⟩
theorem true_any (i : ByteArray) (v : ByteArray) (w : World) : Calls Try.prog 42 #[.string i, .string v] w fun e w' => e = .returned (.bool true) ∧ Below w.heap.size w w' := by
  go_enter Try.func42, Try.ntmps42
  go_wp2_with fail
  go_ret
  exact ⟨rfl, Below.refl _ _⟩
/-- what a range hands over -/
def pairs (l : List E) : List (ByteArray × ByteArray) := l.map fun e => (e.id, bang e.id)
/-- what the closure holds between two rounds -/
structure Between (Z : World → Nat → Prop) (n0 bo C : Nat) (f : Value) (l : List E) (W : World) : Prop where
  low : n0 ≤ W.heap.size
  ok : W.cell? ⟨bo, 0, none⟩ = some f
  off : ¬ Z W bo
  rows : Reads W C l
  offC : ¬ Z W C
theorem Between.below {Z : World → Nat → Prop} {n0 bo C : Nat} {f : Value} {l : List E} {W W' : World} (hst : Still n0 Z) (h : Between Z n0 bo C f l W) (hC : C < W.heap.size) (hb : Below W.heap.size W W') : Between Z n0 bo C f l W' :=
  ⟨Nat.le_trans h.low hb.size, (hb.cell (p := ⟨bo, 0, none⟩) (World.block_lt_of_cell? W _ h.ok)).trans h.ok, fun z => h.off (hst W W' h.low hb _ z), h.rows.below hb hC, fun z => h.offC (hst W W' h.low hb _ z)⟩
theorem Between.kp {Z : World → Nat → Prop} {n0 bo C : Nat} {f : Value} {l : List E} {W W' : World} (h : Between Z n0 bo C f l W) (hC : C < W.heap.size) (hk : KpZ Z W W') : Between Z n0 bo C f l W' :=
  ⟨Nat.le_trans h.low hk.size, hk.cell h.off h.ok, fun z => h.off (hk.zone _ (World.block_lt_of_cell? W _ h.ok) z), fun k hk' => by
    obtain ⟨h0, h1, h2, h3⟩ := h.rows k hk'
    exact ⟨hk.cell h.offC h0, hk.cell h.offC h1, hk.cell h.offC h2, hk.cell h.offC h3⟩, fun z => h.offC (hk.zone _ hC z)⟩

set_option maxRecDepth 100000 in
set_option maxHeartbeats 8000000 in
theorem all_stops (n : Nat) (hn : 1 ≤ n) (Z : World → Nat → Prop) (n0 q g bq bo cap : Nat) (A : Option Addr) (l : List E) (m1 m2 : Value) (w : World) (hst : Still n0 Z) (hn0 : n0 ≤ w.heap.size) (hbq : w.cell? ⟨bq, 0, none⟩ = some (.pointer (some ⟨q, 0, none⟩)))
    (hbo : w.cell? ⟨bo, 0, none⟩ = some (.func (.func 42) #[] #[])) (hA : At w q 75 #[.slice A l.length cap, m1, m2]) (hr : Rw w A g cap l) (hg : g < w.heap.size) (hl : l.length ≤ 60000) (hz1 : ∀ r, Z w r → r < w.heap.size) (hz2 : ¬ Z w bo) :
    SeqStopsK Fence.wide n Try.prog 57 #[.pointer (some ⟨bq, 0, none⟩), .pointer (some ⟨bo, 0, none⟩)] (fun x : ByteArray × ByteArray => #[Value.string x.1, Value.string x.2]) (KpZ Z) (fun ys => ys = pairs l) (fun pre => pre <+: pairs l) l.length w := by
  intro lb J Jx W hW hJ hJx hY h0
  have cq := (hW.cell (p := ⟨bq, 0, none⟩) (World.block_lt_of_cell? w _ hbq)).trans hbq
  have co := (hW.cell (p := ⟨bo, 0, none⟩) (World.block_lt_of_cell? w _ hbo)).trans hbo
  have hAW := hA.below hW hA.lt
  have q0 : W.cell? ⟨q, 0, none⟩ = some (.slice A l.length cap) := hAW.cell 0
  have hrW : Rw W A g cap l := hr.keep (Keep.of (Z := fun _ => False) hW) id
  have hgW : g < W.heap.size := Nat.lt_of_lt_of_le hg hW.size
  have HC := Lib.hid (clone_any A g cap l W hrW hgW hl)
  have HY := Lib.hid hY
  have HJ := Lib.hid hJ
  have HJx := Lib.hid hJx
  have HST := Lib.hid hst
  have H0 := Lib.hid h0
  have zW : ∀ r, Z W r → r < w.heap.size := fun r z => hz1 r (hst w W hn0 hW r z)
  have zo : ¬ Z W bo := fun z => hz2 (hst w W hn0 hW _ z)
  have ZW := Lib.hid zW
  have ZO := Lib.hid zo
  have hlow : n0 ≤ W.heap.size := Nat.le_trans hn0 hW.size
  have hws := hW.size
  have hfn : ∀ W : World, (binOp .eql 84 (.func (.func 42) #[] #[]) .nilFunc).run Try.prog W = .ok (.bool false) W := fun W => by kernel_rfl
  clear hA hr hAW hrW hY hJ hJx hst h0 zW zo hz1 hz2 hW hbq hbo
  refine callsIn_of_wp Try.func57 rfl trivial ?_ rfl
  simp only [Try.ntmps57, List.size_toArray, List.length_cons, List.length_nil, Nat.reduceAdd, Nat.reduceSub, Array.replicate_succ, Array.replicate_zero, List.push_toArray, List.append_toArray, List.nil_append, List.cons_append]
  gi_wp2
  refine ⟨trivial, (callsIn_wide.2 HC.out).mono ?_⟩
  rintro e w1 ⟨A', C, cap', rfl, hrw', hge, hcap', hb1⟩
  have hlow1 : n0 ≤ w1.heap.size := Nat.le_trans hlow hb1.size
  have hJ1 := abides_below HJ.out H0.out hb1
  have co1 : w1.cell? ⟨bo, 0, none⟩ = some (.func (.func 42) #[] #[]) := (hb1.cell (p := ⟨bo, 0, none⟩) (World.block_lt_of_cell? W _ co)).trans co
  have hbol := World.block_lt_of_cell? w1 _ co1
  have zo1 : ¬ Z w1 bo := fun z => ZO.out (HST.out W w1 hlow hb1 _ z)
  obtain ⟨D, hD, hDl, hA'⟩ : ∃ D, Between Z n0 bo D (.func (.func 42) #[] #[]) l w1 ∧ D < w1.heap.size ∧ (0 < l.length → A' = some ⟨D, 0, none⟩) := by
    rcases hrw' with ⟨h1, rfl, h2⟩ | ⟨rfl, hrow⟩
    · exact ⟨bo, ⟨hlow1, co1, zo1, fun k hk => absurd hk (Nat.not_lt_zero _), zo1⟩, hbol, fun h => absurd h (Nat.lt_irrefl _)⟩
    · refine ⟨C, ⟨hlow1, co1, zo1, hrow.reads, fun z => ?_⟩, hrow.lt, fun _ => rfl⟩
      have := ZW.out _ (HST.out W w1 hlow hb1 _ z)
      have := hge (by simp)
      omega
  have HD := Lib.hid hD
  have HA' := Lib.hid hA'
  have HJ1 := Lib.hid hJ1
  clear hD hA' hJ1 hrw' hge hb1 hlow1 zo1 co1 hbol co cq q0 hcap'
  gi_wp2
  gi_loopw [18] (fun t wr => ∃ k : Nat, k ≤ l.length ∧ t = .int .i64 (k : Int) ∧ J (pairs (l.take k)) wr ∧ Between Z n0 bo D (.func (.func 42) #[] #[]) l wr ∧ D < wr.heap.size) (fun t _ => l.length - (intOf t).toNat)
  case atStart => exact ⟨0, Nat.zero_le _, rfl, HJ1.out, HD.out, hDl⟩
  case round =>
    obtain ⟨k, hk, rfl, hJs, hbt, hDr⟩ := hrel
    have HJs := Lib.hid hJs
    have HBT := Lib.hid hbt
    clear hJs
    by_cases hlt : k < l.length
    · obtain ⟨c0, c1, c2, c3⟩ := hbt.rows k hlt
      have co := hbt.ok
      obtain rfl := HA'.out (by omega)
      have b0 : (0 : Int) ≤ (k : Int) := by omega
      have b1 : (k : Int) < (l.length : Int) := by omega
      clear hbt
      have coa : ∀ o, (wr.alloc o).cell? ⟨bo, 0, none⟩ = some (.func (.func 42) #[] #[]) := fun o => (World.cell?_alloc_some wr _ o (by rw [co]; rfl)).trans co
      gi_wp2
      refine ⟨trivial, (callsIn_wide.2 (true_any _ _ _)).mono ?_⟩
      rintro e w2 ⟨rfl, hb2⟩
      have hE := (At.new wr 82 #[.string l[k].id, .int .i64 l[k].p, .int .i64 l[k].s, .string (bang l[k].id)]).below hb2 (by simp)
      have e0 : w2.cell? ⟨wr.heap.size, 0, none⟩ = some (.string l[k].id) := hE.cell 0
      have e3 : w2.cell? ⟨wr.heap.size, 3, none⟩ = some (.string (bang l[k].id)) := hE.cell 3
      have hb3 : Below wr.heap.size wr w2 := bstep ((Below.refl _ _).alloc (Nat.le_refl _) _) hb2
      have hJ2 := abides_below HJ.out HJs.out hb3
      have HB2 := Lib.hid (HBT.out.below HST.out hDr hb3)
      have hD2 := Nat.lt_of_lt_of_le hDr hb3.size
      obtain ⟨fn, tmps, assign, body, hy, hR⟩ := HY.out (pairs (l.take k)) (l[k].id, bang l[k].id) w2 hJ2 (by unfold pairs; rw [List.length_map, List.length_take]; omega)
      dsimp only at hy
      have hpk : pairs (l.take (k + 1)) = pairs (l.take k) ++ [(l[k].id, bang l[k].id)] := by
        unfold pairs
        rw [List.take_succ_eq_append_getElem hlt, List.map_append]
        rfl
      have HPK := Lib.hid hpk
      clear hpk hE hb2 hb3 hJ2 c0 c1 c2 c3 co coa
      gi_wp2
      refine hR.mono ?_
      rintro e W3 (⟨rfl, hJ3, hk3⟩ | ⟨rfl, hJx3⟩)
      · gi_wp2
        go_roundw
        case rel => exact ⟨k + 1, by omega, by go_num, by rw [HPK.out]; exact hJ3, HB2.out.kp hD2 hk3, Nat.lt_of_lt_of_le hD2 hk3.size⟩
        case measure => simp [intOf]; omega
      · gi_wp2
        refine bodyPost_ret (results_none rfl _ _ _) rfl ?_
        exact ⟨⟨_, rfl⟩, .inr ⟨_, by rw [← HPK.out]; exact (List.take_prefix (k + 1) l).map _, hJx3⟩⟩
    · obtain rfl : k = l.length := by omega
      clear hbt
      gi_wp2
      go_end0
      exact ⟨⟨_, rfl⟩, .inl ⟨_, by rw [List.take_of_length_le (Nat.le_refl _)], HJs.out⟩⟩
end Go.Proofs.Ytmimfhjmhlmibaa.T
