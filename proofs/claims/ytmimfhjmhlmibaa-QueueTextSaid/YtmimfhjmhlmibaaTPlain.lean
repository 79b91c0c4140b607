/- Entries of the queue of texts as plain cells. -/
import Derived.Test.YtmimfhjmhlmibaaIter
import Derived.Test.YtmimfhjmhlmibaaLoop
namespace Go.Proofs.Ytmimfhjmhlmibaa.T
/-- the value that QueueText gives an item of this name -/
def bang (i : ByteArray) : ByteArray := i ++ ⟨#[33]⟩
set_option linter.unusedVariables false

/-- its cells -/
def ecells (e : E) : List Value := [.string e.id, .int .i64 e.p, .int .i64 e.s, .string (bang e.id)]
def rows (l : List E) : List Value := l.flatMap ecells
theorem rows_length (l : List E) : (rows l).length = l.length * 4 := by
  induction l with
  | nil => rfl
  | cons e l ih =>
    show (ecells e ++ rows l).length = _
    rw [List.length_append, ih]
    simp [ecells]; omega
theorem rows_append (a b : List E) : rows (a ++ b) = rows a ++ rows b := by simp [rows]
theorem rows_get (l : List E) (k j : Nat) (hk : k < l.length) (hj : j < 4) : (rows l)[k * 4 + j]? = (ecells l[k])[j]? := by
  induction l generalizing k with
  | nil => simp at hk
  | cons e l ih =>
    show (ecells e ++ rows l)[k * 4 + j]? = _
    have h4 : (ecells e).length = 4 := rfl
    cases k with
    | zero => simp only [Nat.zero_mul, Nat.zero_add, List.getElem_cons_zero]; rw [List.getElem?_append_left (by omega)]
    | succ k =>
      rw [List.getElem?_append_right (by omega), show (k + 1) * 4 + j - (ecells e).length = k * 4 + j from by omega, ih k (by simpa using hk)]
      rfl
theorem rows_take (l : List E) (k : Nat) : (rows l).take (k * 4) = rows (l.take k) := by
  induction l generalizing k with
  | nil => simp [rows]
  | cons e l ih =>
    cases k with
    | zero => simp [rows]
    | succ k =>
      show (ecells e ++ rows l).take ((k + 1) * 4) = ecells e ++ rows (l.take k)
      have h4 : (ecells e).length = 4 := rfl
      rw [List.take_append, ← ih k, List.take_of_length_le (by omega), show (k + 1) * 4 - (ecells e).length = k * 4 from by omega]
theorem rows_drop (l : List E) (k : Nat) : (rows l).drop (k * 4) = rows (l.drop k) := by
  induction l generalizing k with
  | nil => simp [rows]
  | cons e l ih =>
    cases k with
    | zero => simp [rows]
    | succ k =>
      show (ecells e ++ rows l).drop ((k + 1) * 4) = rows (l.drop k)
      have h4 : (ecells e).length = 4 := rfl
      rw [List.drop_append, ← ih k, List.drop_eq_nil_of_le (by omega), show (k + 1) * 4 - (ecells e).length = k * 4 from by omega, List.nil_append]

end Go.Proofs.Ytmimfhjmhlmibaa.T
