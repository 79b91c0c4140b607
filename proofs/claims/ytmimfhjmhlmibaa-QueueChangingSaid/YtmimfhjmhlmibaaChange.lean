/- A range whose body changes the queue itself: the zone, and what holds between two calls. -/
import Derived.Test.YtmimfhjmhlmibaaLawFifo
namespace Go.Proofs.Ytmimfhjmhlmibaa
open Go.RowKit Go.MapKept Go.ChangeMaps Go.Shelf
set_option linter.unusedVariables false

/-- the queue's own blocks: the one that its row points at hangs on the world -/
def ChQ (q m1 m2 : Nat) (W : World) (r : Nat) : Prop := r = q ∨ r = m1 ∨ r = m2 ∨ ∃ n c : Nat, W.cell? ⟨q, 0, none⟩ = some (.slice (some ⟨r, 0, none⟩) n c)
/-- and a counter's -/
def ChZ (q m1 m2 bn : Nat) (W : World) (r : Nat) : Prop := ChQ q m1 m2 W r ∨ r = bn
theorem ChQ.of_cell {q m1 m2 : Nat} {W W' : World} (h : W'.cell? ⟨q, 0, none⟩ = W.cell? ⟨q, 0, none⟩) {r : Nat} (z : ChQ q m1 m2 W' r) : ChQ q m1 m2 W r := by
  rcases z with z | z | z | ⟨n, c, z⟩
  · exact .inl z
  · exact .inr (.inl z)
  · exact .inr (.inr (.inl z))
  · exact .inr (.inr (.inr ⟨n, c, by rw [← h]; exact z⟩))
theorem ChZ.of_cell {q m1 m2 bn : Nat} {W W' : World} (h : W'.cell? ⟨q, 0, none⟩ = W.cell? ⟨q, 0, none⟩) {r : Nat} (z : ChZ q m1 m2 bn W' r) : ChZ q m1 m2 bn W r :=
  z.elim (fun z => .inl (z.of_cell h)) .inr
theorem chz_still (q m1 m2 bn : Nat) : Still (q + 1) (ChZ q m1 m2 bn) := fun W W' hn hb r z => z.of_cell (hb.cell (p := ⟨q, 0, none⟩) hn)
theorem qu_cell {W : World} {q g m1 m2 : Nat} {M : List E} (h : Qu W q g m1 m2 M) {r n c : Nat} (z : W.cell? ⟨q, 0, none⟩ = some (.slice (some ⟨r, 0, none⟩) n c)) : r = g ∧ ∃ cap, RowAt W r cap M := by
  obtain ⟨A, cap, hA, hr, hc⟩ := h.body
  have h0 : W.cell? ⟨q, 0, none⟩ = some (.slice A M.length cap) := hA.cell 0
  rw [h0] at z
  have e := Option.some.inj z
  simp only [Value.slice.injEq] at e
  obtain ⟨rfl, -, -⟩ := e
  rcases hr with ⟨h1, _⟩ | ⟨h1, h2⟩
  · cases h1
  · have e := Option.some.inj h1
    simp only [Addr.mk.injEq] at e
    obtain ⟨rfl, -, -⟩ := e
    exact ⟨rfl, cap, h2⟩
theorem qu_norm {W : World} {q g m1 m2 : Nat} {M : List E} (h : Qu W q g m1 m2 M) : ∃ g', (Qu W q g' m1 m2 M ∧ ∀ r, ZQ q g' m1 m2 r → ChQ q m1 m2 W r) ∧ (g' = g ∨ g' = q) := by
  obtain ⟨A, cap, hA, hr, hc⟩ := h.body
  rcases hr with ⟨rfl, h2, h3⟩ | ⟨rfl, h2⟩
  · refine ⟨q, ⟨⟨⟨none, cap, hA, .inl ⟨rfl, h2, h3⟩, hc⟩, h.keys, h.used, h.two, h.qlt, h.good⟩, fun r z => ?_⟩, .inr rfl⟩
    rcases z with z | z | z | z
    · exact .inl z
    · exact .inl z
    · exact .inr (.inl z)
    · exact .inr (.inr (.inl z))
  · refine ⟨g, ⟨h, fun r z => ?_⟩, .inl rfl⟩
    rcases z with z | z | z | z
    · exact .inl z
    · subst z
      exact .inr (.inr (.inr ⟨_, _, hA.cell 0⟩))
    · exact .inr (.inl z)
    · exact .inr (.inr (.inl z))

/-- the queue as the body leaves it -/
def ChC (q g0 m1 m2 : Nat) (wb : World) (M : List E) (W : World) : Prop := ∃ g, (Qu W q g m1 m2 M ∧ ∀ r, ZQ q g m1 m2 r → ChQ q m1 m2 W r) ∧ (g = g0 ∨ g = q ∨ wb.heap.size ≤ g) ∧ Keep (ZQ q g0 m1 m2) wb W
theorem ChC.keep {q g0 m1 m2 : Nat} {wb W W' : World} {M : List E} {Y : Nat → Prop} (h : ChC q g0 m1 m2 wb M W) (k : Keep Y W W') (y1 : ∀ r, ChQ q m1 m2 W r → ¬ Y r) (y2 : ∀ r, r < wb.heap.size → ¬ Y r) : ChC q g0 m1 m2 wb M W' := by
  obtain ⟨g, ⟨hq, hn⟩, hg, hk⟩ := h
  have yq := y1 q (.inl rfl)
  have hc : W'.cell? ⟨q, 0, none⟩ = W.cell? ⟨q, 0, none⟩ := World.cell?_of_block (k.block q yq hq.qlt)
  exact ⟨g, ⟨hq.keep k yq (y1 g (hn g (.inr (.inl rfl)))) (y1 m1 (.inr (.inl rfl))) (y1 m2 (.inr (.inr (.inl rfl)))), fun r z => (hn r z).of_cell hc.symm⟩, hg, hk.then k (fun r hr z => absurd z (y2 r hr))⟩
theorem ChC.below {q g0 m1 m2 : Nat} {wb W W' : World} {M : List E} (h : ChC q g0 m1 m2 wb M W) (hb : Below W.heap.size W W') : ChC q g0 m1 m2 wb M W' :=
  h.keep (Y := fun _ => False) (.of hb) (fun _ _ => id) (fun _ _ => id)
/-- a cell of another type is none of the queue's -/
theorem ChC.ne {q g0 m1 m2 bn : Nat} {wb W : World} {M : List E} {t : TypeId} {cs : Array Value} (h : ChC q g0 m1 m2 wb M W) (hb : At W bn t cs) (e1 : t ≠ 90) (e2 : t ≠ 88) {r : Nat} (z : ChQ q m1 m2 W r) : ¬ r = bn := by
  obtain ⟨g, ⟨hq, hn⟩, hg, hk⟩ := h
  rcases z with rfl | rfl | rfl | ⟨n, c, z⟩
  · obtain ⟨A, cap, hA, _⟩ := hq.body
    exact fun e => At.ne hb hA e1 e.symm
  · exact fun e => At.ne_map hb hq.keys e.symm
  · exact fun e => At.ne_map hb hq.used e.symm
  · obtain ⟨_, cap, pad, h1, _⟩ := qu_cell hq z
    exact fun e => At.ne hb h1 e2 e.symm
theorem ChC.call {q g0 m1 m2 bn C : Nat} {wb W : World} {M M' : List E} {cs : Array Value} {f : FuncId} {args : Array Value} {res : Ending} (h : ChC q g0 m1 m2 wb M W) (hb : At W bn 3 cs) (hq : q < C) (h1 : m1 < C) (h2 : m2 < C)
    (hc : ∀ g, Qu W q g m1 m2 M → Calls Try.prog f args W (Turned q g m1 m2 M' res W)) :
    Calls Try.prog f args W fun e W' => e = res ∧ ChC q g0 m1 m2 wb M' W' ∧ At W' bn 3 cs ∧ KpZ (ChZ q m1 m2 bn) W W' ∧ KeepsFrom C W W' := by
  have hne := fun r => h.ne hb (by decide) (by decide) (r := r)
  obtain ⟨g, ⟨hqu, hn⟩, hg, hk⟩ := h
  refine (hc g hqu).mono ?_
  rintro e W' ⟨he, g', hqu', hg', hk'⟩
  have hbn : ¬ ZQ q g m1 m2 bn := fun z => hne bn (hn bn z) rfl
  obtain ⟨g2, hq2, hg2⟩ := qu_norm hqu'
  refine ⟨he, ⟨g2, hq2, ?_, hk.then hk' (fun r hr z => ?_)⟩, hb.keep hk' hbn, ⟨hk'.size, fun r o hz ho _ => (hk'.block r (fun z => hz (.inl (hn r z))) (Array.getElem?_eq_some_iff.1 ho).1).trans ho, fun r hr z => ?_⟩, hk'.size, fun k o hC ho hco => (hk'.block k (fun z => ?_) (Array.getElem?_eq_some_iff.1 ho).1).trans ho⟩
  · have := hk.size
    rcases hg2 with rfl | rfl
    · rcases hg' with rfl | hg'
      · exact hg
      · exact .inr (.inr (by omega))
    · exact .inr (.inl rfl)
  · rcases z with z | z | z | z
    · exact .inl z
    · subst z
      rcases hg with rfl | rfl | hg
      · exact .inr (.inl rfl)
      · exact .inl rfl
      · omega
    · exact .inr (.inr (.inl z))
    · exact .inr (.inr (.inr z))
  · rcases z with (z | z | z | ⟨n, c, z⟩) | z
    · exact .inl (.inl z)
    · exact .inl (.inr (.inl z))
    · exact .inl (.inr (.inr (.inl z)))
    · obtain ⟨rfl, _⟩ := qu_cell hqu' z
      rcases hg' with rfl | hg'
      · exact .inl (hn _ (.inr (.inl rfl)))
      · omega
    · exact .inr z
  · rcases hn k z with z | z | z | ⟨n, c, z⟩
    · omega
    · omega
    · omega
    · obtain ⟨_, cap, pad, hA, _⟩ := qu_cell hqu z
      rw [show W.heap[k]? = _ from hA] at ho
      cases ho
      cases hco
theorem ChC.qlt {q g0 m1 m2 : Nat} {wb W : World} {M : List E} (h : ChC q g0 m1 m2 wb M W) : q < W.heap.size := by
  obtain ⟨g, ⟨hq, _⟩, _⟩ := h
  exact hq.qlt
theorem ChC.remv {q g0 m1 m2 bn C : Nat} {wb W : World} {M : List E} {cs : Array Value} (h : ChC q g0 m1 m2 wb M W) (hb : At W bn 3 cs) (hq : q < C) (h1 : m1 < C) (h2 : m2 < C) (i : ByteArray) (hl : M.length ≤ 60000) :
    Calls Try.prog 23 #[.pointer (some ⟨q, 0, none⟩), .string i] W fun e W' => e = .returned (.tuple #[.int .i64 (remvP i M).2.1, .int .i64 (remvP i M).2.2]) ∧ ChC q g0 m1 m2 wb (remvP i M).1 W' ∧ At W' bn 3 cs ∧ KpZ (ChZ q m1 m2 bn) W W' ∧ KeepsFrom C W W' :=
  h.call hb hq h1 h2 (fun g hqu => remv_any q g m1 m2 M i W hqu hl)
theorem ChC.prom {q g0 m1 m2 bn C : Nat} {wb W : World} {M : List E} {cs : Array Value} (h : ChC q g0 m1 m2 wb M W) (hb : At W bn 3 cs) (hq : q < C) (h1 : m1 < C) (h2 : m2 < C) (i : ByteArray) (p : Int) (hl : M.length ≤ 60000) :
    Calls Try.prog 24 #[.pointer (some ⟨q, 0, none⟩), .string i, .int .i64 p] W fun e W' => e = .returned (.int .i64 (promP i p M).2) ∧ ChC q g0 m1 m2 wb (promP i p M).1 W' ∧ At W' bn 3 cs ∧ KpZ (ChZ q m1 m2 bn) W W' ∧ KeepsFrom C W W' :=
  h.call hb hq h1 h2 (fun g hqu => prom_any q g m1 m2 M i p W hqu hl)
theorem ChC.add {q g0 m1 m2 bn C : Nat} {wb W : World} {M : List E} {cs : Array Value} (h : ChC q g0 m1 m2 wb M W) (hb : At W bn 3 cs) (hq : q < C) (h1 : m1 < C) (h2 : m2 < C) (x : E) (hl : M.length ≤ 60000) :
    Calls Try.prog 25 #[.pointer (some ⟨q, 0, none⟩), .string x.id, .agg #[.int .i64 x.p, .int .i64 x.s], .int .i64 x.v] W fun e W' => e = .returned (.int .i64 (addP x M).2) ∧ ChC q g0 m1 m2 wb (addP x M).1 W' ∧ At W' bn 3 cs ∧ KpZ (ChZ q m1 m2 bn) W W' ∧ KeepsFrom C W W' :=
  h.call hb hq h1 h2 (fun g hqu => add_any q g m1 m2 M x W hqu hl)
theorem ChC.set {q g0 m1 m2 bn : Nat} {wb W : World} {M : List E} {u v : Value} (h : ChC q g0 m1 m2 wb M W) (hb : At W bn 3 #[u]) (hwb : wb.heap.size ≤ bn) :
    ChC q g0 m1 m2 wb M (W.setCell ⟨bn, 0, none⟩ v) ∧ At (W.setCell ⟨bn, 0, none⟩ v) bn 3 #[v] ∧ KpZ (ChZ q m1 m2 bn) W (W.setCell ⟨bn, 0, none⟩ v) := by
  have hne := fun r => h.ne hb (by decide) (by decide) (r := r)
  have hk : Keep (· = bn) W (W.setCell ⟨bn, 0, none⟩ v) := Keep.setCell (Z := (· = bn)) (p := ⟨bn, 0, none⟩) rfl v W
  have h16 := hb.set 0 v
  simp at h16
  refine ⟨h.keep hk hne (fun r hr e => by omega), h16, hk.size, fun r o hz ho _ => (hk.block r (fun e => hz (.inr e)) (Array.getElem?_eq_some_iff.1 ho).1).trans ho, fun r _ z => ?_⟩
  obtain ⟨g, ⟨hqu, hn⟩, -, -⟩ := h
  exact z.of_cell (World.cell?_of_block (hk.block q (hne q (.inl rfl)) hqu.qlt))
theorem kpzd_below {q m1 m2 bn : Nat} {W W' : World} (hq : q < W.heap.size) (h : Below W.heap.size W W') : KpZ (ChZ q m1 m2 bn) W W' :=
  ⟨h.size, fun r o hz ho _ => (h.block r (Array.getElem?_eq_some_iff.1 ho).1).trans ho, fun r _ z => z.of_cell (h.cell (p := ⟨q, 0, none⟩) hq)⟩
theorem kpzd_b {q m1 m2 bn n : Nat} (W : World) (l : Nat) (o o' : Obj) (hl : n ≤ l) (h : W.heap[l]? = some o) (hc : o.isCells = false) (hk : o.isWalk = false) (hq : q < n) : KpZ (ChZ q m1 m2 bn) W (W.putObj l o') :=
  ⟨(grownBy_putObj' W l o').size, fun r ob hz ho hob => by
    have hne : r ≠ l := fun e => by subst e; rw [h] at ho; cases ho; rw [hc] at hob; cases hob
    exact (World.putObj_heap_other hne).trans ho, fun r _ z => z.of_cell (World.cell?_of_block (World.putObj_heap_other (by show q ≠ l; omega)))⟩
/-- what holds between two rounds of QueueChanging's range -/
def ChI (q g0 m1 m2 bn : Nat) (wb : World) (L : List E) (pre : List (ByteArray × Int)) (W : World) : Prop := ∃ M : List E, (M.length ≤ L.length + 4 * pre.length ∧ ChC q g0 m1 m2 wb M W) ∧ At W bn 3 #[.int .i64 (pre.length : Nat)]
theorem chI_own {q g0 m1 m2 bn n : Nat} {wb : World} {L : List E} (hq : q < n) (h1 : m1 < n) (h2 : m2 < n) (hb : wb.heap.size ≤ n) : OwnFrom n (ChI q g0 m1 m2 bn wb L) := by
  refine ownFrom_ex fun M => .and (.and (fun s W W' row hs _ _ => hs) ?_) (ownFrom_at n _ _ (fun pre : List (ByteArray × Int) => #[.int .i64 (pre.length : Nat)]))
  intro s W W' row hs hg hr
  refine hs.keep (Y := fun r => row = some r) ⟨hg.os, hg.tape, hg.output, hg.size, fun r hz hl => hg.block r hl (fun e => hz e.symm)⟩ (fun r z e => ?_) (fun r hl e => ?_)
  · obtain ⟨hn, o, ho, hco⟩ := hr r e
    obtain ⟨g, ⟨hqu, _⟩, -, -⟩ := hs
    rcases z with z | z | z | ⟨_, _, z⟩
    · omega
    · omega
    · omega
    · obtain ⟨_, cap, pad, hA, _⟩ := qu_cell hqu z
      rw [show W.heap[r]? = _ from hA] at ho
      cases ho
      cases hco
  · obtain ⟨hn, _⟩ := hr r e
    omega
end Go.Proofs.Ytmimfhjmhlmibaa
