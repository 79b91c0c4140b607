/- copy and clear at elements of any number of cells; a row behind a run of stores. -/
import Derived.Test.YtmimfhjmhlmibaaSmall
import Derived.Laws.IdiomCopy
import Derived.Deep.AppendSrc
import Derived.Lib.SliceRun
import Derived.Lib.AppendZerosOnto
import Derived.Lib.Overlaps
namespace Go.Proofs.Ytmimfhjmhlmibaa
open Go.RowKit
set_option linter.unusedVariables false

theorem copy_cellsN {P : Program} (w : World) (dT sT ty elem : TypeId) (i : TypeInfo) (b o dLen dCap : Nat) (a : Addr) (sLen sCap : Nat) (cs : List Value)
    (hu : P.underlying dT = some (.slice elem)) (hi : P.info? elem = some i) (hn : cs.length = Nat.min sLen dLen * i.size)
    (hsrc : ∀ j v, cs[j]? = some v → w.cell? (a.add j) = some v) (hc : ∀ j, j < cs.length → (w.cell? ⟨b, o + j, none⟩).isSome = true) (hf : ∀ j, j < cs.length → w.frozen? ⟨b, o + j, none⟩ = false) (h1 : ∀ v ∈ cs, v.oneCell' = true) :
    (Builtin.copy_ #[dT, sT] ty #[.slice (some ⟨b, o, none⟩) dLen dCap, .slice (some a) sLen sCap]).run P w = .ok (goInt (Nat.min sLen dLen)) (w.setCells b o cs) := by
  have hl := run_loadCells_list (P := P) w a cs hsrc
  have hst := run_storeCells_cells (P := P) b o cs 0 w (by simpa using hc) (by simpa using hf) h1
  simp [Builtin.copy_, run_underlying hu, Builtin.lenOf, Builtin.firstCells, sizeOf, typeInfo, hi, ← hn, hl, hst]

theorem clear_cellsN {P : Program} (w : World) (t e ty : TypeId) (z : Value) (ht : P.underlying t = some (.slice e)) (hv : ∀ w, (zeroValue e).run P w = .ok z w) (b o n c : Nat) (hn : 0 < n) (zs : List Value) (hz : (Builtin.zeroCells z.cells n).toList = zs) (h1 : ∀ v ∈ zs, v.oneCell' = true)
    (hc : ∀ j, j < zs.length → (w.cell? ⟨b, o + j, none⟩).isSome = true) (hf : ∀ j, j < zs.length → w.frozen? ⟨b, o + j, none⟩ = false) :
    (Builtin.clear_ #[t] ty #[.slice (some ⟨b, o, none⟩) n c]).run P w = .ok (.tuple #[]) (w.setCells b o zs) := by
  have hst := run_storeCells_cells (P := P) b o zs 0 w (by simpa using hc) (by simpa using hf) h1
  simp only [Nat.add_zero] at hst
  obtain ⟨m, rfl⟩ : ∃ m, n = m + 1 := ⟨n - 1, by omega⟩
  simp [Builtin.clear_, run_underlying ht, hv, hz, hst]

/-- a row behind a run of stores within it -/
theorem At.setCells {w : World} {g : Nat} {t : TypeId} : ∀ (vs pre mid post : List Value), mid.length = vs.length → At w g t (pre ++ mid ++ post).toArray → At (w.setCells g pre.length vs) g t (pre ++ vs ++ post).toArray
  | [], pre, mid, post, h, hat => by
    obtain rfl := List.length_eq_zero_iff.1 h
    exact hat
  | v :: vs, pre, [], post, h, hat => by simp at h
  | v :: vs, pre, m :: mid, post, h, hat => by
    have h1 := hat.set pre.length v
    have e : (pre ++ m :: mid ++ post).toArray.setIfInBounds pre.length v = ((pre ++ [v]) ++ mid ++ post).toArray := by
      apply Array.ext'
      simp
    rw [e] at h1
    have h2 := At.setCells vs (pre ++ [v]) mid post (by simpa using h) h1
    rw [World.setCells]
    simpa using h2
theorem setCells_other {g r : Nat} (hne : r ≠ g) : ∀ (vs : List Value) (o : Nat) (w : World), (w.setCells g o vs).heap[r]? = w.heap[r]?
  | [], _, _ => rfl
  | v :: vs, o, w => by rw [World.setCells, setCells_other hne vs]; exact Below.heap_setCell w _ v r hne
theorem setCells_size {g : Nat} : ∀ (vs : List Value) (o : Nat) (w : World), (w.setCells g o vs).heap.size = w.heap.size
  | [], _, _ => rfl
  | v :: vs, o, w => by rw [World.setCells, setCells_size vs]; exact World.size_setCell ..
end Go.Proofs.Ytmimfhjmhlmibaa
