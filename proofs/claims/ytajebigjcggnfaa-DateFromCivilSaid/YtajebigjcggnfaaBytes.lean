/- A row of bytes of the call's own, made by append or by a conversion out of a string: appending one byte to it, reading it as a string. -/
import Derived.Test.YtajebigjcggnfaaRows
import Derived.WalkKit
import Derived.Below
import Derived.Laws.Append
import Derived.Laws.IdiomStrings
import Derived.Lib.BufferRead
namespace Go.Proofs.Ytajebigjcggnfaa
open Go.RowKit
set_option linter.unusedVariables false

theorem info_u8 : (Try.prog.info? 5).map (fun i => (i.zero, i.size, i.bytes)) = some (some (.int .u8 0), 1, 1) := by kernel_rfl
/-- bytes as cells -/
def bv (c : UInt8) : Value := .int .u8 (c.toNat : Int)
/-- v is nil, or a row of the call's own that holds the bytes l -/
def OwnB (w : World) (B : Nat) (v : Value) (l : List UInt8) : Prop :=
  (v = .slice none 0 0 ∧ l = []) ∨
  ∃ g cap cur fr, v = .slice (some ⟨g, 0, none⟩) l.length cap ∧ B ≤ g ∧ w.heap[g]? = some (.cells cur 5 fr) ∧ l.length ≤ cap ∧ cap ≤ maxLen ∧ cur.size = cap ∧ cur.toList.take l.length = l.map bv ∧ (fr = (0, 0) ∨ cap ≤ fr.1)
theorem OwnB.nil (w : World) (B : Nat) : OwnB w B (.slice none 0 0) [] := .inl ⟨rfl, rfl⟩

theorem own_cells {w : World} {g : Nat} {cur : Array Value} {fr : Nat × Nat} {l : List UInt8} (hg : w.heap[g]? = some (.cells cur 5 fr)) (htake : cur.toList.take l.length = l.map bv) (j : Nat) (hj : j < l.length) :
    w.cell? ((⟨g, 0, none⟩ : Addr).add j) = some (.int .u8 (l[j].toNat : Int)) := by
  have h1 : cur[j]? = some (bv l[j]) := by
    have : (cur.toList.take l.length)[j]? = some (bv l[j]) := by rw [htake]; simp [List.getElem?_eq_getElem hj]
    rw [List.getElem?_take_of_lt hj] at this
    simpa using this
  have hadd : (⟨g, 0, none⟩ : Addr).add j = ⟨g, j, none⟩ := by unfold Addr.add; split <;> simp_all
  rw [hadd]
  simp [World.cell?, hg, h1, bv]

/-- 'string(b)' -/
theorem conv_own {w : World} {B : Nat} {v : Value} {l : List UInt8} (h : OwnB w B v l) :
    (convert 67 9 v).run Try.prog w = .ok (.string ⟨l.toArray⟩) w := by
  rcases h with ⟨rfl, rfl⟩ | ⟨g, cap, cur, fr, rfl, _, hg, _, _, _, htake, _⟩
  · exact Lib.run_convert_nil_bytes w 67 9 5 0 Try.underlying67 Try.underlying5 Try.underlying9
  · exact run_convert_bytes_back w 67 9 5 _ cap l Try.underlying67 Try.underlying5 Try.underlying9 (fun j hj => own_cells hg htake j hj)

/-- '[]byte(s)' -/
theorem conv_bytes (w : World) (B : Nat) (l : List UInt8) (hl : l.length ≤ maxLen) (hB : B ≤ w.heap.size) :
    ∃ v w', (convert 9 67 (.string ⟨l.toArray⟩)).run Try.prog w = .ok v w' ∧ OwnB w' B v l ∧ Below B w w' := by
  have hr := run_bytes_of_string (P := Try.prog) w 9 67 5 ⟨l.toArray⟩ Try.underlying9 Try.underlying67 Try.underlying5
  have hsz : (ByteArray.mk l.toArray).size = l.length := by simp [ByteArray.size]
  have hge := grownCap_ge w l.length 0 5
  have hle := grownCap_le_maxLen w l.length 0 5 hl
  rw [hsz] at hr
  refine ⟨_, _, hr, .inr ⟨w.heap.size, _, _, _, rfl, hB, heap_alloc_new w.drew _, hge, hle, ?_, ?_, ?_⟩, ?_⟩
  · simp [bytesRow, hsz]; omega
  · simp only [bytesRow, Array.toList_append, Array.toList_map]
    rw [List.take_append_of_le_length (by simp), List.take_of_length_le (by simp)]
    rfl
  · right; simp [bytesRow, hsz]; omega
  · exact ((Below.refl _ _).drew).alloc (by simpa using hB) _

/-- one byte more -/
theorem run_append_byte (w : World) (B : Nat) (v : Value) (l : List UInt8) (h : OwnB w B v l) (c : UInt8) (ad : Addr) (hc : w.cell? ad = some (bv c)) (hl : l.length ≤ 1000000) (hB : B ≤ w.heap.size) (ty : TypeId) :
    ∃ v' w', (Builtin.append_ #[67, 67] ty #[v, .slice (some ad) 1 1]).run Try.prog w = .ok v' w' ∧ OwnB w' B v' (l ++ [c]) ∧ Below B w w' := by
  obtain ⟨i, hi, hz, hsize, hby⟩ := info_parts info_u8
  have hnews : ∀ j u, ([bv c] : List Value)[j]? = some u → w.cell? (ad.add j) = some u := by
    intro j u hu
    obtain rfl : j = 0 := by
      rcases Nat.eq_zero_or_pos j with h0 | h0
      · exact h0
      · rw [List.getElem?_eq_none (by simp; omega)] at hu; cases hu
    simp at hu
    subst hu
    simpa [Addr.add] using hc
  rcases h with ⟨rfl, rfl⟩ | ⟨g, cap, cur, fr, rfl, hbg, hg, hle, hcm, hcs, htake, hfr⟩
  · have hr := run_append_nil (P := Try.prog) w 67 ty 5 i (.int .u8 0) Try.underlying67 hi hz ad 1 1 [bv c] (by simp [hsize]) hnews (by omega) (by omega) (by rw [hby]; omega)
    have hge := grownCap_ge w 1 0 5
    have hcap := grownCap_le_maxLen w 1 0 5 (by unfold maxLen; omega)
    refine ⟨_, _, hr, .inr ⟨w.heap.size, _, _, (0, 0), rfl, hB, heap_alloc_new w.drew _, by simpa using hge, hcap, ?_, ?_, .inl rfl⟩, ((Below.refl _ _).drew).alloc (by simpa using hB) _⟩
    · simp [size_zeroCells, Value.cells]; omega
    · simp
  · by_cases hroom : l.length + 1 ≤ cap
    · have hcell : w.cell? ⟨g, l.length, none⟩ = some (cur[l.length]'(by omega)) := by simp [World.cell?, hg, show l.length < cur.size from by omega]
      have hfro : w.frozen? ⟨g, l.length, none⟩ = false := by
        obtain ⟨lo, hi2⟩ := fr
        rcases hfr with hfr | hfr
        · cases hfr; simp [World.frozen?, hg]
        · simp only at hfr
          simp only [World.frozen?, hg]
          simp; omega
      have hadd : (⟨g, 0, none⟩ : Addr).add l.length = ⟨g, l.length, none⟩ := by unfold Addr.add; split <;> simp_all
      have hadd0 : (⟨g, l.length, none⟩ : Addr).add 0 = ⟨g, l.length, none⟩ := by simp [Addr.add]
      have hst : (storeCells ⟨g, l.length, none⟩ [bv c] 0).run Try.prog w = .ok () (w.setCell ⟨g, l.length, none⟩ (bv c)) := by
        simp [storeCells, hadd0, run_store Try.prog w _ (bv c) _ rfl, hcell, hfro]
      have hf := run_firstCells_some (P := Try.prog) w i.size 1 ad 1 1 [bv c] (by simp [hsize]) hnews
      refine ⟨.slice (some ⟨g, 0, none⟩) (l.length + 1) cap, w.setCell ⟨g, l.length, none⟩ (bv c), ?_, .inr ⟨g, cap, cur.setIfInBounds l.length (bv c), fr, by simp, hbg, ?_, by simpa using hroom, hcm, by simpa using hcs, ?_, hfr⟩, (Below.refl _ _).setCell hbg _⟩
      · rw [hsize] at hf
        simp [Builtin.append_, run_underlying Try.underlying67, sizeOf, typeInfo, hi, hsize, Builtin.lenOf, hroom, hf, hadd, hst]
      · simp [World.setCell, Array.getElem?_modify, hg]
      · have h2 : l.length < cur.toList.length := by
          have : cur.toList.length = cap := by simpa using hcs
          omega
        simp only [Array.toList_setIfInBounds, List.length_append, List.length_singleton, List.map_append, List.map_cons, List.map_nil]
        rw [List.take_add_one, List.take_set_of_le (Nat.le_refl _), htake, List.getElem?_set_self h2]
        rfl
    · have holds : ∀ j u, (l.map bv)[j]? = some u → w.cell? ((⟨g, 0, none⟩ : Addr).add j) = some u := by
        intro j u hu
        have hj : j < l.length := by
          have := (List.getElem?_eq_some_iff.1 hu).1
          simpa using this
        rw [own_cells hg htake j hj]
        simp [List.getElem?_eq_getElem hj, bv] at hu
        rw [hu]
      have hr := run_append_grow (P := Try.prog) w 67 ty 5 i (.int .u8 0) Try.underlying67 hi hz ⟨g, 0, none⟩ l.length cap (l.map bv) (by simp [hsize]) holds ad 1 1 [bv c] (by simp [hsize]) hnews (by omega) (by omega) (growslice_fits (by omega) (by rw [hby]; omega))
      have hge := grownCap_ge w (l.length + 1) cap 5
      have hcap := grownCap_le_maxLen w (l.length + 1) cap 5 (by unfold maxLen; omega)
      refine ⟨_, _, hr, .inr ⟨w.heap.size, _, _, (0, 0), by simp, hB, heap_alloc_new w.drew _, by simpa using hge, hcap, ?_, ?_, .inl rfl⟩, ((Below.refl _ _).drew).alloc (by simpa using hB) _⟩
      · simp [size_zeroCells, Value.cells]; omega
      · have e : ((l.map bv).toArray ++ [bv c].toArray ++ Builtin.zeroCells (Value.int IntKind.u8 0).cells (grownCap w (l.length + 1) cap 5 - (l.length + 1))).toList =
            (l.map bv ++ [bv c]) ++ (Builtin.zeroCells (Value.int IntKind.u8 0).cells (grownCap w (l.length + 1) cap 5 - (l.length + 1))).toList := by simp
        rw [e, List.map_append]
        exact List.take_left' (by simp)

/-- the law at the operation, for the walk -/
theorem wpList_append_byte {w : World} {ops : Array Oper} {rest : List Oper} {o : Oper} {a : Act} {Q : Exit → Act → World → Prop} (hgd : o.guard = none) (s x : Operand)
    (ho : o.op = .call { callee := .builtin .append, args := #[s, x], argTypes := #[67, 67] })
    (B : Nat) (v : Value) (l : List UInt8) (hs : a.eval s = v) (hown : OwnB w B v l) (c : UInt8) (ad : Addr) (hx : a.eval x = .slice (some ad) 1 1) (hc : w.cell? ad = some (bv c)) (hl : l.length ≤ 1000000) (hB : B ≤ w.heap.size)
    (h : ∀ v' w', OwnB w' B v' (l ++ [c]) → Below B w w' → wpList Try.prog ops Q rest (a.put o.dst v') w') : wpList Try.prog ops Q (o :: rest) a w := by
  refine wpList_plain hgd fun K hK => ?_
  obtain ⟨v', w', hr, h2, h3⟩ := run_append_byte w B v l hown c ad hc hl hB o.type
  unfold Oper.wp execOp
  simp only [ho, resolve, invoke, builtin, Sem.run_bind, Sem.run_pure, Result.andThen_ok, List.map_toArray, List.map_cons, List.map_nil, hs, hx, hr]
  exact hK _ _ (h v' w' h2 h3)

theorem OwnB.alloc {w : World} {B : Nat} {v : Value} {l : List UInt8} (h : OwnB w B v l) (o : Obj) : OwnB (w.alloc o) B v l := by
  rcases h with h | ⟨g, cap, cur, fr, h1, h2, hg, h4⟩
  · exact .inl h
  · exact .inr ⟨g, cap, cur, fr, h1, h2, (Below.heap_alloc w o g (by
      rcases Nat.lt_or_ge g w.heap.size with hlt | hge
      · exact hlt
      · rw [Array.getElem?_eq_none hge] at hg; cases hg)).trans hg, h4⟩
theorem OwnB.drew {w : World} {B : Nat} {v : Value} {l : List UInt8} (h : OwnB w B v l) : OwnB w.drew B v l := h
end Go.Proofs.Ytajebigjcggnfaa
