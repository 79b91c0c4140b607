/- Plain mathematics of decimal texts: digits of a fixed width, their value, their order. No program is in sight here. -/
import Derived.KernelRfl
namespace Go.Proofs.Ytajebigjcggnfaa.Dig

/-- ten to the power of k -/
def p10 : Nat → Int
  | 0 => 1
  | k + 1 => 10 * p10 k
/-- the character of the last digit -/
def ch (n : Int) : UInt8 := UInt8.ofNat (48 + (n % 10).toNat)
theorem ch_val (n : Int) : ((ch n).toNat : Int) = 48 + n % 10 := by
  unfold ch
  have h1 : 0 ≤ n % 10 := Int.emod_nonneg _ (by decide)
  have h2 : n % 10 < 10 := Int.emod_lt_of_pos _ (by decide)
  rw [UInt8.toNat_ofNat']
  omega
/-- k digits of n -/
def dg (n : Int) : Nat → List UInt8
  | 0 => []
  | k + 1 => dg (n / 10) k ++ [ch n]
theorem dg_length (n : Int) (k : Nat) : (dg n k).length = k := by
  induction k generalizing n with
  | zero => rfl
  | succ k ih => simp [dg, ih]
/-- the value of a text of digits -/
def val (l : List UInt8) : Int := l.foldl (fun n c => 10 * n + ((c.toNat : Int) - 48)) 0
theorem val_snoc (l : List UInt8) (c : UInt8) : val (l ++ [c]) = 10 * val l + ((c.toNat : Int) - 48) := by unfold val; rw [List.foldl_append]; rfl
theorem val_dg (k : Nat) : ∀ n : Int, 0 ≤ n → n < p10 k → val (dg n k) = n := by
  induction k with
  | zero => intro n h0 h1; simp only [p10] at h1; simp [dg, val]; omega
  | succ k ih =>
    intro n h0 h1
    simp only [p10] at h1
    rw [dg, val_snoc, ih (n / 10) (by omega) (by omega), ch_val]; omega
/-- a character that is a digit -/
def isD (c : UInt8) : Prop := 48 ≤ (c.toNat : Int) ∧ (c.toNat : Int) ≤ 57
theorem ch_isD (n : Int) : isD (ch n) := by
  unfold isD; rw [ch_val]; omega
theorem dg_isD (k : Nat) : ∀ n : Int, ∀ c ∈ dg n k, isD c := by
  induction k with
  | zero => intro n c hc; simp [dg] at hc
  | succ k ih =>
    intro n c hc
    simp only [dg, List.mem_append, List.mem_singleton] at hc
    rcases hc with hc | rfl
    · exact ih _ c hc
    · exact ch_isD n
theorem val_nonneg (k : Nat) : ∀ l : List UInt8, l.length = k → (∀ c ∈ l, isD c) → 0 ≤ val l ∧ val l < p10 k := by
  induction k with
  | zero => intro l h _; obtain rfl := List.eq_nil_of_length_eq_zero h; simp [val, p10]
  | succ k ih =>
    intro l h hd
    obtain ⟨a, c, rfl⟩ : ∃ a c, l = a ++ [c] := ⟨l.dropLast, l.getLast (by rintro rfl; simp at h), (List.dropLast_concat_getLast _).symm⟩
    have := ih a (by simpa using h) (fun x hx => hd x (by simp [hx]))
    have hc := hd c (by simp)
    unfold isD at hc
    rw [val_snoc, p10]; omega
theorem dg_val (k : Nat) : ∀ l : List UInt8, l.length = k → (∀ c ∈ l, isD c) → dg (val l) k = l := by
  induction k with
  | zero => intro l h _; obtain rfl := List.eq_nil_of_length_eq_zero h; rfl
  | succ k ih =>
    intro l h hd
    obtain ⟨a, c, rfl⟩ : ∃ a c, l = a ++ [c] := ⟨l.dropLast, l.getLast (by rintro rfl; simp at h), (List.dropLast_concat_getLast _).symm⟩
    have hc := hd c (by simp)
    unfold isD at hc
    rw [dg, val_snoc]
    rw [show (10 * val a + ((c.toNat : Int) - 48)) / 10 = val a from by omega, ih a (by simpa using h) (fun x hx => hd x (by simp [hx]))]
    congr 1
    have e : ch (10 * val a + ((c.toNat : Int) - 48)) = c := by
      apply UInt8.toNat_inj.1
      have := ch_val (10 * val a + ((c.toNat : Int) - 48))
      omega
    rw [e]
theorem dg_inj (k : Nat) (a b : Int) (h0 : 0 ≤ a) (h1 : a < p10 k) (h0' : 0 ≤ b) (h1' : b < p10 k) (h : dg a k = dg b k) : a = b := by
  rw [← val_dg k a h0 h1, ← val_dg k b h0' h1', h]
end Go.Proofs.Ytajebigjcggnfaa.Dig
