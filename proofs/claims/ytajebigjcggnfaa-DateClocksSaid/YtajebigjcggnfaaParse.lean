/- The walks of Parse and ParseClock, and of the reference's Parse and ParseClock. -/
import Derived.Test.YtajebigjcggnfaaShape
import Derived.Lib.Strings
namespace Go.Proofs.Ytajebigjcggnfaa
open Go.RowKit
set_option linter.unusedVariables false
attribute [local go_sem ↓] Go.wp_at_zero Go.wp_at_succ

/-- the two forms -/
def f10 : ByteArray := ⟨#[48, 48, 48, 48, 45, 48, 48, 45, 48, 48]⟩
def f16 : ByteArray := ⟨#[48, 48, 48, 48, 45, 48, 48, 45, 48, 48, 32, 48, 48, 58, 48, 48]⟩

/-- digits from place a on, b many -/
def DigAt (s : ByteArray) (a b : Nat) : Prop := ∀ (j : Nat) (h : j < s.size), a ≤ j → j < a + b → Dig.isD s[j]
theorem fits10 {s : ByteArray} (h : Fits s f10) : s.size = 10 ∧ DigAt s 0 4 ∧ DigAt s 5 2 ∧ DigAt s 8 2 ∧ s.data.toList[4]? = some 45 ∧ s.data.toList[7]? = some 45 := by
  have hs : s.size = 10 := h.1
  have key : ∀ (j : Nat) (hj : j < s.size), okc s[j] (f10[j]'(by rw [hs] at hj; exact hj)) := fun j hj => h.2 j hj _
  refine ⟨hs, ?_, ?_, ?_, ?_, ?_⟩
  · intro j hj a b
    obtain rfl | rfl | rfl | rfl : j = 0 ∨ j = 1 ∨ j = 2 ∨ j = 3 := by omega
    all_goals exact key _ hj
  · intro j hj a b
    obtain rfl | rfl : j = 5 ∨ j = 6 := by omega
    all_goals exact key _ hj
  · intro j hj a b
    obtain rfl | rfl : j = 8 ∨ j = 9 := by omega
    all_goals exact key _ hj
  · rw [toList_get s 4 (by omega)]; exact congrArg some (key 4 (by omega))
  · rw [toList_get s 7 (by omega)]; exact congrArg some (key 7 (by omega))
theorem fits16 {s : ByteArray} (h : Fits s f16) : s.size = 16 ∧ DigAt s 0 4 ∧ DigAt s 5 2 ∧ DigAt s 8 2 ∧ DigAt s 11 2 ∧ DigAt s 14 2 ∧ s.data.toList[4]? = some 45 ∧ s.data.toList[7]? = some 45 ∧ s.data.toList[10]? = some 32 ∧ s.data.toList[13]? = some 58 := by
  have hs : s.size = 16 := h.1
  have key : ∀ (j : Nat) (hj : j < s.size), okc s[j] (f16[j]'(by rw [hs] at hj; exact hj)) := fun j hj => h.2 j hj _
  refine ⟨hs, ?_, ?_, ?_, ?_, ?_, ?_, ?_, ?_, ?_⟩
  · intro j hj a b
    obtain rfl | rfl | rfl | rfl : j = 0 ∨ j = 1 ∨ j = 2 ∨ j = 3 := by omega
    all_goals exact key _ hj
  · intro j hj a b
    obtain rfl | rfl : j = 5 ∨ j = 6 := by omega
    all_goals exact key _ hj
  · intro j hj a b
    obtain rfl | rfl : j = 8 ∨ j = 9 := by omega
    all_goals exact key _ hj
  · intro j hj a b
    obtain rfl | rfl : j = 11 ∨ j = 12 := by omega
    all_goals exact key _ hj
  · intro j hj a b
    obtain rfl | rfl : j = 14 ∨ j = 15 := by omega
    all_goals exact key _ hj
  · rw [toList_get s 4 (by omega)]; exact congrArg some (key 4 (by omega))
  · rw [toList_get s 7 (by omega)]; exact congrArg some (key 7 (by omega))
  · rw [toList_get s 10 (by omega)]; exact congrArg some (key 10 (by omega))
  · rw [toList_get s 13 (by omega)]; exact congrArg some (key 13 (by omega))

/-- the number that stands from place a on, b digits long -/
def nAt (s : ByteArray) (a b : Nat) : Int := Dig.val ((s.data.toList.drop a).take b)
theorem nAt_list {s : ByteArray} {a b : Nat} (h : a + b ≤ s.size) (hd : DigAt s a b) : ((s.data.toList.drop a).take b).length = b ∧ ∀ c ∈ (s.data.toList.drop a).take b, Dig.isD c := by
  refine ⟨by rw [List.length_take, List.length_drop]; have : s.data.toList.length = s.size := by simp
             omega, fun c hc => ?_⟩
  rw [List.mem_iff_getElem?] at hc
  obtain ⟨i, hi⟩ := hc
  rw [List.getElem?_take] at hi
  split at hi
  · rename_i hik
    rw [List.getElem?_drop, toList_get s (a + i) (by omega)] at hi
    obtain rfl := Option.some.inj hi
    exact hd _ _ (by omega) (by omega)
  · cases hi
theorem nAt_bd {s : ByteArray} {a b : Nat} (h : a + b ≤ s.size) (hb : b ≤ 4) (hd : DigAt s a b) : 0 ≤ nAt s a b ∧ nAt s a b ≤ 9999 :=
  val_le _ (by rw [(nAt_list h hd).1]; exact hb) (nAt_list h hd).2
theorem nAt_bd2 {s : ByteArray} {a : Nat} (h : a + 2 ≤ s.size) (hd : DigAt s a 2) : 0 ≤ nAt s a 2 ∧ nAt s a 2 ≤ 99 := by
  have := Dig.val_nonneg 2 _ (nAt_list h hd).1 (nAt_list h hd).2
  simp only [Dig.p10] at this
  unfold nAt; omega

/-- the function that fields returns, at literals -/
theorem clos_any (s : ByteArray) (b : Nat) (a wd v : Int) (w : World) (hc : w.cell? ⟨b, 0, none⟩ = some (.string s)) (hv : nAt s a.toNat wd.toNat = v) (ha : 0 ≤ a) (hw0 : 0 ≤ wd) (hw : wd ≤ 4) (hs : a + wd ≤ s.size) (hs2 : s.size ≤ 1000) (hd : DigAt s a.toNat wd.toNat) :
    Calls Try.prog 50 #[.int .i64 a, .int .i64 wd, .pointer (some ⟨b, 0, none⟩)] w fun e w' => e = .returned (.int .i64 v) ∧ w = w' := by
  subst hv
  obtain ⟨a, rfl⟩ := Int.eq_ofNat_of_zero_le ha
  obtain ⟨wd, rfl⟩ := Int.eq_ofNat_of_zero_le hw0
  exact clos s b a wd w hc (by omega) (by omega) hs2 hd
theorem rnum_any (s : ByteArray) (a b : Nat) (v : Int) (w : World) (hv : nAt s a (b - a) = v) (hab : a ≤ b) (hs : b ≤ s.size) (hw : b - a ≤ 4) (hd : DigAt s a (b - a)) :
    Calls Try.prog 49 #[.string (s.extract a b)] w fun e w' => e = .returned (.int .i64 v) ∧ w = w' := by
  have he : (s.extract a b).data.toList = (s.data.toList.drop a).take (b - a) := Lib.extract_data s a b
  have hl := nAt_list (s := s) (a := a) (b := b - a) (by omega) hd
  have hsz : (s.extract a b).size = b - a := by simp; omega
  have h := rnumber (s.extract a b) w (by omega) (fun j hj => by
    have h1 := toList_get (s.extract a b) j hj
    rw [he] at h1
    exact hl.2 _ (List.mem_of_getElem? h1))
  rw [he] at h
  subst hv
  exact h

set_option maxHeartbeats 1000000 in
theorem parse_nf (s : ByteArray) (w : World) (hs : s.size ≤ maxLen) (hf : ¬ Fits s f10) :
    Calls Try.prog 33 #[.string s] w fun e w' => e = .returned (.tuple #[.int .i64 0, .int .i64 3]) ∧ Below w.heap.size w w' := by
  go_enter Try.func33, Try.ntmps33
  go_wp2_with fail
  refine (fields_any s f10 _ hs (by decide)).mono ?_
  rintro e w1 ⟨-, h2, hb⟩
  obtain rfl := h2 hf
  go_wp2_with fail
  go_ret2
  exact ⟨rfl, hb⟩

set_option maxHeartbeats 1000000 in
theorem parse_fit (s : ByteArray) (Y M D r k : Int) (w : World) (hf : Fits s f10) (hY : nAt s 0 4 = Y) (hM : nAt s 5 2 = M) (hD : nAt s 8 2 = D)
    (hr : ∀ W : World, Calls Try.prog 20 #[.agg #[.int .i64 Y, .int .i64 M, .int .i64 D]] W fun e w' => e = .returned (.tuple #[.int .i64 r, .int .i64 k]) ∧ Below W.heap.size W w') :
    Calls Try.prog 33 #[.string s] w fun e w' => e = .returned (.tuple #[.int .i64 r, .int .i64 k]) ∧ Below w.heap.size w w' := by
  obtain ⟨hs, d1, d2, d3, -, -⟩ := fits10 hf
  have HS := Lib.hid hs
  have H1 := Lib.hid d1
  have H2 := Lib.hid d2
  have H3 := Lib.hid d3
  have HY := Lib.hid hY
  have HM := Lib.hid hM
  have HD := Lib.hid hD
  have HR := Lib.hid hr
  clear hs d1 d2 d3 hY hM hD hr
  go_enter Try.func33, Try.ntmps33
  go_wp2_with fail
  refine (fields_any s f10 _ (by rw [HS.out]; decide) (by decide)).mono ?_
  rintro e w1 ⟨h1, -, hb⟩
  obtain ⟨rfl, hA⟩ := h1 hf
  have c0 := hA.cell 0
  simp at c0
  have C0 := Lib.hid c0
  clear h1 hA c0
  go_wp2_with fail
  refine (clos_any s _ 0 4 Y _ C0.out HY.out (by decide) (by decide) (by decide) (by rw [HS.out]; decide) (by rw [HS.out]; decide) H1.out).mono ?_
  rintro e w' ⟨rfl, rfl⟩
  go_wp2_with fail
  refine (clos_any s _ 5 2 M _ C0.out HM.out (by decide) (by decide) (by decide) (by rw [HS.out]; decide) (by rw [HS.out]; decide) H2.out).mono ?_
  rintro e w' ⟨rfl, rfl⟩
  go_wp2_with fail
  refine (clos_any s _ 8 2 D _ C0.out HD.out (by decide) (by decide) (by decide) (by rw [HS.out]; decide) (by rw [HS.out]; decide) H3.out).mono ?_
  rintro e w' ⟨rfl, rfl⟩
  go_wp2_with fail
  refine (HR.out _).mono ?_
  rintro e w2 ⟨rfl, hb2⟩
  go_wp2_with fail
  go_ret2
  exact ⟨rfl, bstep hb hb2⟩

set_option maxHeartbeats 1000000 in
theorem rparse_nf (s : ByteArray) (w : World) (hs : s.size ≤ maxLen) (hf : ¬ Fits s f10) :
    Calls Try.prog 38 #[.string s] w fun e w' => e = .returned (.tuple #[.int .i64 0, .int .i64 3]) ∧ Below w.heap.size w w' := by
  go_enter Try.func38, Try.ntmps38
  go_wp2_with fail
  refine (shape_any s f10 _ hs (by decide)).mono ?_
  rintro e w1 ⟨-, h2, n, rfl⟩
  obtain rfl := h2 hf
  go_wp2_with fail
  go_ret2
  exact ⟨rfl, below_drewN (Below.refl _ _) _⟩

set_option maxHeartbeats 1000000 in
/-- the reference's Parse of a text that fits -/
theorem rparse_fit (s : ByteArray) (Y M D : Int) (w : World) (hf : Fits s f10) (hY : nAt s 0 4 = Y) (hM : nAt s 5 2 = M) (hD : nAt s 8 2 = D) :
    (Cal.vld Y M D → Calls Try.prog 38 #[.string s] w fun e w' => e = .returned (.tuple #[.int .i64 (Cal.num Y M D), .int .i64 0]) ∧ Below w.heap.size w w') ∧
    (¬ Cal.vld Y M D → Calls Try.prog 38 #[.string s] w fun e w' => e = .returned (.tuple #[.int .i64 0, .int .i64 28]) ∧ Below w.heap.size w w') := by
  obtain ⟨hs, d1, d2, d3, -, -⟩ := fits10 hf
  have H1 := Lib.hid d1
  have H2 := Lib.hid d2
  have H3 := Lib.hid d3
  clear d1 d2 d3
  have hsl : ∀ (a b : Nat) (W : World), a ≤ b → b ≤ 10 → b - a ≤ 4 → DigAt s a (b - a) → Calls Try.prog 49 #[.string (s.extract a b)] W fun e w' => e = .returned (.int .i64 (nAt s a (b - a))) ∧ W = w' :=
    fun a b W h1 h2 h3 hd => rnum_any s a b _ W rfl h1 (by omega) h3 hd
  have HSL := Lib.hid hsl
  clear hsl
  constructor
  · intro hv
    have HV := Lib.hid hv
    clear hv
    go_enter Try.func38, Try.ntmps38
    go_wp2_with fail
    refine (shape_any s f10 _ (by rw [hs]; decide) (by decide)).mono ?_
    rintro e w1 ⟨h1, -, n, hw1⟩
    obtain rfl := h1 hf
    have hB : Below w.heap.size w w1 := by rw [hw1]; exact below_drewN (Below.refl _ _) _
    have hs1 := hB.size
    clear h1 hw1
    go_wp2_with fail
    go_region_held3 (fun _ => True) (trivial) (first | (go_at_call 49; ((with_reducible refine (HSL.out _ _ _ ?_ ?_ ?_ ?_).mono ?_) <;> (first | omega | exact H1.out | exact H2.out | exact H3.out | (rintro e w2 ⟨rfl, rfl⟩)))))
    all_goals
      go_wp2_with fail
      refine (rvalid_yes _ _ _ _ HV.out).mono ?_
      rintro e w2 ⟨rfl, hb2⟩
      obtain ⟨hc2, hf2⟩ := bcell hb2
      go_wp2_with fail
      refine (rfrom _ _ _ _ HV.out).mono ?_
      rintro e w3 ⟨rfl, hb3⟩
      go_wp2_with fail
      go_ret2
      refine ⟨rfl, bstep (bstep ?_ hb2) hb3⟩
      repeat (first | exact hB | refine Below.setCell ?_ (by first | omega | (simp; omega)) _ | refine Below.drew ?_ | refine below_drewN ?_ _ | refine Below.alloc ?_ (by first | omega | (simp; omega)) _)
  · intro hv
    have HV := Lib.hid hv
    clear hv
    go_enter Try.func38, Try.ntmps38
    go_wp2_with fail
    refine (shape_any s f10 _ (by rw [hs]; decide) (by decide)).mono ?_
    rintro e w1 ⟨h1, -, n, hw1⟩
    obtain rfl := h1 hf
    have hB : Below w.heap.size w w1 := by rw [hw1]; exact below_drewN (Below.refl _ _) _
    have hs1 := hB.size
    clear h1 hw1
    go_wp2_with fail
    go_region_held3 (fun _ => True) (trivial) (first | (go_at_call 49; ((with_reducible refine (HSL.out _ _ _ ?_ ?_ ?_ ?_).mono ?_) <;> (first | omega | exact H1.out | exact H2.out | exact H3.out | (rintro e w2 ⟨rfl, rfl⟩)))))
    all_goals
      go_wp2_with fail
      refine (rvalid_no _ _ _ _ HV.out).mono ?_
      rintro e w2 ⟨rfl, hb2⟩
      go_wp2_with fail
      go_ret2
      refine ⟨rfl, bstep ?_ hb2⟩
      repeat (first | exact hB | refine Below.setCell ?_ (by first | omega | (simp; omega)) _ | refine Below.drew ?_ | refine below_drewN ?_ _ | refine Below.alloc ?_ (by first | omega | (simp; omega)) _)
end Go.Proofs.Ytajebigjcggnfaa
