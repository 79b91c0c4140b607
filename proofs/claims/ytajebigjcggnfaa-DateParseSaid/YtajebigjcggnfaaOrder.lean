/- Plain laws of the texts of dates: their order, that they fit the form and read back, that a text that fits is the text of what it reads as. -/
import Derived.Test.YtajebigjcggnfaaKnown
import Derived.Test.YtajebigjcggnfaaClock
namespace Go.Proofs.Ytajebigjcggnfaa
set_option linter.unusedVariables false

theorem bl_prefix (x a b : List UInt8) : Op.bytesLess (x ++ a) (x ++ b) = Op.bytesLess a b := by
  induction x with
  | nil => rfl
  | cons c x ih => simp [Op.bytesLess, ih]
theorem bl_diff : ∀ (p q a b : List UInt8), p.length = q.length → p ≠ q → Op.bytesLess (p ++ a) (q ++ b) = Op.bytesLess p q
  | [], [], a, b, _, h => absurd rfl h
  | [], _ :: _, a, b, hl, _ => by simp at hl
  | _ :: _, [], a, b, hl, _ => by simp at hl
  | c :: p, d :: q, a, b, hl, h => by
    simp only [List.cons_append, Op.bytesLess]
    by_cases e : c = d
    · subst e
      have hpq : p ≠ q := fun hh => h (by rw [hh])
      rw [bl_diff p q a b (by simpa using hl) hpq]
    · have : (c == d) = false := by rw [beq_eq_false_iff_ne]; exact e
      simp [this]
theorem bl_dg (k : Nat) : ∀ a b : Int, 0 ≤ a → a < Dig.p10 k → 0 ≤ b → b < Dig.p10 k → Op.bytesLess (Dig.dg a k) (Dig.dg b k) = decide (a < b) := by
  induction k with
  | zero => intro a b h0 h1 h0' h1'; simp only [Dig.p10] at h1 h1'; simp [Dig.dg, Op.bytesLess]; omega
  | succ k ih =>
    intro a b h0 h1 h0' h1'
    simp only [Dig.p10] at h1 h1'
    simp only [Dig.dg]
    by_cases e : a / 10 = b / 10
    · rw [e, bl_prefix]
      have ca := Dig.ch_val a
      have cb := Dig.ch_val b
      have hlt : (Dig.ch a < Dig.ch b) ↔ a < b := by
        rw [UInt8.lt_iff_toNat_lt]; omega
      simp [Op.bytesLess, hlt]
    · rw [bl_diff _ _ _ _ (by rw [Dig.dg_length, Dig.dg_length]) (fun h => e (Dig.dg_inj k _ _ (by omega) (by omega) (by omega) (by omega) h)), ih _ _ (by omega) (by omega) (by omega) (by omega)]
      congr 1
      apply propext
      omega
/-- a field of a fixed width, then the rest -/
theorem bl_field (k : Nat) (a b : Int) (x y : List UInt8) (h0 : 0 ≤ a) (h1 : a < Dig.p10 k) (h0' : 0 ≤ b) (h1' : b < Dig.p10 k) :
    Op.bytesLess (Dig.dg a k ++ x) (Dig.dg b k ++ y) = (decide (a < b) || (decide (a = b) && Op.bytesLess x y)) := by
  by_cases e : a = b
  · subst e; rw [bl_prefix]; simp
  · rw [bl_diff _ _ _ _ (by rw [Dig.dg_length, Dig.dg_length]) (fun h => e (Dig.dg_inj k _ _ h0 h1 h0' h1' h)), bl_dg k a b h0 h1 h0' h1']
    simp [e]
theorem vld_bd {y m d : Int} (h : Cal.vld y m d) : 0 ≤ y ∧ y < Dig.p10 4 ∧ 0 ≤ m ∧ m < Dig.p10 2 ∧ 0 ≤ d ∧ d < Dig.p10 2 := by
  have hl := Cal.len_bd y m h.2.2.1 h.2.2.2.1
  obtain ⟨h1, h2, h3, h4, h5, h6⟩ := h
  have e4 : Dig.p10 4 = 10000 := rfl
  have e2 : Dig.p10 2 = 100 := rfl
  rw [e4, e2]; omega
theorem bl_dtext {y m d y' m' d' : Int} (h : Cal.vld y m d) (h' : Cal.vld y' m' d') : Op.bytesLess (dtext y m d) (dtext y' m' d') = decide (Cal.num y m d < Cal.num y' m' d') := by
  obtain ⟨a1, a2, a3, a4, a5, a6⟩ := vld_bd h
  obtain ⟨b1, b2, b3, b4, b5, b6⟩ := vld_bd h'
  unfold dtext
  simp only [List.append_assoc]
  rw [bl_field 4 _ _ _ _ a1 a2 b1 b2, bl_prefix, bl_field 2 _ _ _ _ a3 a4 b3 b4, bl_prefix, bl_dg 2 _ _ a5 a6 b5 b6]
  rw [Bool.eq_iff_iff]
  simp [Cal.num_lt_iff h h']

theorem dtext_list (y m d : Int) : dtext y m d = [Dig.ch (y / 10 / 10 / 10), Dig.ch (y / 10 / 10), Dig.ch (y / 10), Dig.ch y, 45, Dig.ch (m / 10), Dig.ch m, 45, Dig.ch (d / 10), Dig.ch d] := rfl
theorem okc_ch (n : Int) : okc (Dig.ch n) 48 := by
  unfold okc
  rw [if_pos rfl]; exact Dig.ch_isD n
set_option maxHeartbeats 1000000 in
theorem dtext_fits (y m d : Int) : Fits ⟨(dtext y m d).toArray⟩ f10 := by
  refine ⟨rfl, fun j hj hj' => ?_⟩
  have h : j < 10 := hj'
  obtain rfl | rfl | rfl | rfl | rfl | rfl | rfl | rfl | rfl | rfl : j = 0 ∨ j = 1 ∨ j = 2 ∨ j = 3 ∨ j = 4 ∨ j = 5 ∨ j = 6 ∨ j = 7 ∨ j = 8 ∨ j = 9 := by omega
  · exact okc_ch _
  · exact okc_ch _
  · exact okc_ch _
  · exact okc_ch _
  · exact okc_of _ _ rfl
  · exact okc_ch _
  · exact okc_ch _
  · exact okc_of _ _ rfl
  · exact okc_ch _
  · exact okc_ch _
theorem dtext_nAt {y m d : Int} (h : Cal.vld y m d) : nAt ⟨(dtext y m d).toArray⟩ 0 4 = y ∧ nAt ⟨(dtext y m d).toArray⟩ 5 2 = m ∧ nAt ⟨(dtext y m d).toArray⟩ 8 2 = d := by
  obtain ⟨a1, a2, a3, a4, a5, a6⟩ := vld_bd h
  exact ⟨Dig.val_dg 4 y a1 a2, Dig.val_dg 2 m a3 a4, Dig.val_dg 2 d a5 a6⟩
set_option maxHeartbeats 1000000 in
theorem ctext_fits (y m d mi : Int) : Fits ⟨(ctext y m d mi).toArray⟩ f16 := by
  refine ⟨rfl, fun j hj hj' => ?_⟩
  have h : j < 16 := hj'
  obtain rfl | rfl | rfl | rfl | rfl | rfl | rfl | rfl | rfl | rfl | rfl | rfl | rfl | rfl | rfl | rfl : j = 0 ∨ j = 1 ∨ j = 2 ∨ j = 3 ∨ j = 4 ∨ j = 5 ∨ j = 6 ∨ j = 7 ∨ j = 8 ∨ j = 9 ∨ j = 10 ∨ j = 11 ∨ j = 12 ∨ j = 13 ∨ j = 14 ∨ j = 15 := by omega
  · exact okc_ch _
  · exact okc_ch _
  · exact okc_ch _
  · exact okc_ch _
  · exact okc_of _ _ rfl
  · exact okc_ch _
  · exact okc_ch _
  · exact okc_of _ _ rfl
  · exact okc_ch _
  · exact okc_ch _
  · exact okc_of _ _ rfl
  · exact okc_ch _
  · exact okc_ch _
  · exact okc_of _ _ rfl
  · exact okc_ch _
  · exact okc_ch _
theorem ctext_nAt {y m d mi : Int} (h : Cal.vld y m d) (m0 : 0 ≤ mi) (m1 : mi ≤ 1439) : nAt ⟨(ctext y m d mi).toArray⟩ 0 4 = y ∧ nAt ⟨(ctext y m d mi).toArray⟩ 5 2 = m ∧ nAt ⟨(ctext y m d mi).toArray⟩ 8 2 = d ∧
    nAt ⟨(ctext y m d mi).toArray⟩ 11 2 = mi / 60 ∧ nAt ⟨(ctext y m d mi).toArray⟩ 14 2 = mi % 60 := by
  obtain ⟨a1, a2, a3, a4, a5, a6⟩ := vld_bd h
  have e2 : Dig.p10 2 = 100 := rfl
  exact ⟨Dig.val_dg 4 y a1 a2, Dig.val_dg 2 m a3 a4, Dig.val_dg 2 d a5 a6, Dig.val_dg 2 (mi / 60) (by omega) (by rw [e2]; omega), Dig.val_dg 2 (mi % 60) (by omega) (by rw [e2]; omega)⟩

theorem list10 : ∀ l : List UInt8, l.length = 10 → ∃ a0 a1 a2 a3 a4 a5 a6 a7 a8 a9, l = [a0, a1, a2, a3, a4, a5, a6, a7, a8, a9]
  | [a0, a1, a2, a3, a4, a5, a6, a7, a8, a9], _ => ⟨a0, a1, a2, a3, a4, a5, a6, a7, a8, a9, rfl⟩
theorem list16 : ∀ l : List UInt8, l.length = 16 → ∃ a0 a1 a2 a3 a4 a5 a6 a7 a8 a9 b0 b1 b2 b3 b4 b5, l = [a0, a1, a2, a3, a4, a5, a6, a7, a8, a9, b0, b1, b2, b3, b4, b5]
  | [a0, a1, a2, a3, a4, a5, a6, a7, a8, a9, b0, b1, b2, b3, b4, b5], _ => ⟨a0, a1, a2, a3, a4, a5, a6, a7, a8, a9, b0, b1, b2, b3, b4, b5, rfl⟩
theorem dg_nAt {s : ByteArray} {a b : Nat} (h : a + b ≤ s.size) (hd : DigAt s a b) : Dig.dg (nAt s a b) b = (s.data.toList.drop a).take b :=
  Dig.dg_val b _ (nAt_list h hd).1 (nAt_list h hd).2
/-- a text that fits is the text of the date that it reads as -/
theorem text_back {s : ByteArray} (h : Fits s f10) : (⟨(dtext (nAt s 0 4) (nAt s 5 2) (nAt s 8 2)).toArray⟩ : ByteArray) = s := by
  obtain ⟨hs, d1, d2, d3, h4, h7⟩ := fits10 h
  have hl : s.data.toList.length = 10 := by simpa using hs
  apply ByteArray.ext
  apply Array.toList_inj.1
  show dtext _ _ _ = s.data.toList
  unfold dtext
  rw [dg_nAt (by omega) d1, dg_nAt (by omega) d2, dg_nAt (by omega) d3]
  generalize s.data.toList = l at *
  obtain ⟨a0, a1, a2, a3, a4, a5, a6, a7, a8, a9, rfl⟩ := list10 l hl
  simp at h4 h7
  subst h4 h7
  rfl
theorem ctext_back {s : ByteArray} (h : Fits s f16) (h23 : nAt s 11 2 ≤ 23) (h59 : nAt s 14 2 ≤ 59) : (⟨(ctext (nAt s 0 4) (nAt s 5 2) (nAt s 8 2) (60 * nAt s 11 2 + nAt s 14 2)).toArray⟩ : ByteArray) = s := by
  obtain ⟨hs, d1, d2, d3, d4, d5, h4, h7, h10, h13⟩ := fits16 h
  have b4 := nAt_bd2 (s := s) (a := 11) (by omega) d4
  have b5 := nAt_bd2 (s := s) (a := 14) (by omega) d5
  have hl : s.data.toList.length = 16 := by simpa using hs
  apply ByteArray.ext
  apply Array.toList_inj.1
  show ctext _ _ _ _ = s.data.toList
  unfold ctext dtext
  rw [show (60 * nAt s 11 2 + nAt s 14 2) / 60 = nAt s 11 2 from by omega, show (60 * nAt s 11 2 + nAt s 14 2) % 60 = nAt s 14 2 from by omega]
  rw [dg_nAt (by omega) d1, dg_nAt (by omega) d2, dg_nAt (by omega) d3, dg_nAt (by omega) d4, dg_nAt (by omega) d5]
  generalize s.data.toList = l at *
  obtain ⟨a0, a1, a2, a3, a4, a5, a6, a7, a8, a9, c0, c1, c2, c3, c4, c5, rfl⟩ := list16 l hl
  simp at h4 h7 h10 h13
  subst h4 h7 h10 h13
  rfl
end Go.Proofs.Ytajebigjcggnfaa
