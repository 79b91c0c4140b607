/- Plain lists of the queue's items: order, the place where a key is or would be, inserting, removing. -/
import Derived.Test.YtmimfhjmhlmibaaCmp
namespace Go.Proofs.Ytmimfhjmhlmibaa
set_option linter.unusedVariables false

/-- an item -/
structure E where
  id : ByteArray
  p : Int
  s : Int
  v : Int
/-- its cells -/
def ecells (e : E) : List Value := [.string e.id, .int .i64 e.p, .int .i64 e.s, .int .i64 e.v]
def rows (l : List E) : List Value := l.flatMap ecells
theorem rows_length (l : List E) : (rows l).length = l.length * 4 := by
  induction l with
  | nil => rfl
  | cons e l ih =>
    show (ecells e ++ rows l).length = _
    rw [List.length_append, ih]
    simp [ecells]; omega
theorem rows_append (a b : List E) : rows (a ++ b) = rows a ++ rows b := by simp [rows]
theorem rows_get (l : List E) (k j : Nat) (hk : k < l.length) (hj : j < 4) : (rows l)[k * 4 + j]? = (ecells l[k])[j]? := by
  induction l generalizing k with
  | nil => simp at hk
  | cons e l ih =>
    show (ecells e ++ rows l)[k * 4 + j]? = _
    have h4 : (ecells e).length = 4 := rfl
    cases k with
    | zero => simp only [Nat.zero_mul, Nat.zero_add, List.getElem_cons_zero]; rw [List.getElem?_append_left (by omega)]
    | succ k =>
      rw [List.getElem?_append_right (by omega), show (k + 1) * 4 + j - (ecells e).length = k * 4 + j from by omega, ih k (by simpa using hk)]
      rfl
theorem rows_take (l : List E) (k : Nat) : (rows l).take (k * 4) = rows (l.take k) := by
  induction l generalizing k with
  | nil => simp [rows]
  | cons e l ih =>
    cases k with
    | zero => simp [rows]
    | succ k =>
      show (ecells e ++ rows l).take ((k + 1) * 4) = ecells e ++ rows (l.take k)
      have h4 : (ecells e).length = 4 := rfl
      rw [List.take_append, ← ih k, List.take_of_length_le (by omega), show (k + 1) * 4 - (ecells e).length = k * 4 from by omega]
theorem rows_drop (l : List E) (k : Nat) : (rows l).drop (k * 4) = rows (l.drop k) := by
  induction l generalizing k with
  | nil => simp [rows]
  | cons e l ih =>
    cases k with
    | zero => simp [rows]
    | succ k =>
      show (ecells e ++ rows l).drop ((k + 1) * 4) = rows (l.drop k)
      have h4 : (ecells e).length = 4 := rfl
      rw [List.drop_append, ← ih k, List.drop_eq_nil_of_le (by omega), show (k + 1) * 4 - (ecells e).length = k * 4 from by omega, List.nil_append]

/-- before a key -/
def eb (p s : Int) (e : E) : Bool := kbef e.p e.s p s
/-- in the queue's order -/
def Sorted (l : List E) : Prop := l.Pairwise fun a b => kbef a.p a.s b.p b.s = true
/-- the place of a key -/
def lb (p s : Int) (l : List E) : Nat := (l.takeWhile (eb p s)).length
theorem kbef_trans {a b c d e f : Int} (h : kbef a b c d = true) (g : kbef c d e f = true) : kbef a b e f = true := by
  unfold kbef at *
  simp only [decide_eq_true_eq] at *
  omega
theorem kbef_iff {a b c d : Int} : kbef a b c d = true ↔ (c < a ∨ (a = c ∧ b < d)) := by unfold kbef; simp
theorem kbef_false {a b c d : Int} : kbef a b c d = false ↔ ¬ (c < a ∨ (a = c ∧ b < d)) := by unfold kbef; simp
theorem lb_le (p s : Int) (l : List E) : lb p s l ≤ l.length := (List.takeWhile_sublist _).length_le
theorem sorted_get {l : List E} (h : Sorted l) (i j : Nat) (hj : j < l.length) (hij : i < j) : kbef (l[i]'(by omega)).p (l[i]'(by omega)).s l[j].p l[j].s = true :=
  List.pairwise_iff_getElem.1 h i j (by omega) hj hij
/-- what the search shows: a place before which all are before the key, and from which none is, is the key's place -/
theorem lb_of {p s : Int} {l : List E} (i : Nat) (hi : i ≤ l.length) (h1 : ∀ (k : Nat) (hk : k < l.length), k < i → eb p s l[k] = true) (h2 : ∀ (k : Nat) (hk : k < l.length), i ≤ k → eb p s l[k] = false) : lb p s l = i := by
  induction l generalizing i with
  | nil => simp at hi; subst hi; rfl
  | cons e l ih =>
    unfold lb
    cases i with
    | zero =>
      have := h2 0 (by simp) (Nat.le_refl _)
      simp only [List.getElem_cons_zero] at this
      rw [List.takeWhile_cons, this]; rfl
    | succ i =>
      have := h1 0 (by simp) (by omega)
      simp only [List.getElem_cons_zero] at this
      rw [List.takeWhile_cons, this]
      simp only [if_true, List.length_cons]
      have := ih i (by simpa using hi) (fun k hk hki => by have := h1 (k + 1) (by simpa using hk) (by omega); simpa using this) (fun k hk hki => by have := h2 (k + 1) (by simpa using hk) (by omega); simpa using this)
      unfold lb at this
      rw [this]
/-- one step of the search -/
theorem eb_down {p s : Int} {l : List E} (h : Sorted l) (m k : Nat) (hm : m < l.length) (hk : k ≤ m) (he : eb p s l[m] = true) : eb p s (l[k]'(by omega)) = true := by
  by_cases e : k = m
  · subst e; exact he
  · exact kbef_trans (sorted_get h k m hm (by omega)) he
theorem eb_up {p s : Int} {l : List E} (h : Sorted l) (m k : Nat) (hk : k < l.length) (hm : m ≤ k) (he : eb p s (l[m]'(by omega)) = false) : eb p s l[k] = false := by
  by_cases e : m = k
  · subst e; exact he
  · cases hh : eb p s l[k]
    · rfl
    · have := kbef_trans (sorted_get h m k hk (by omega)) hh
      unfold eb at he
      rw [this] at he; cases he
end Go.Proofs.Ytmimfhjmhlmibaa
