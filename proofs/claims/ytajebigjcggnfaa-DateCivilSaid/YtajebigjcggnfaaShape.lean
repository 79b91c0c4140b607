/- The walks of fields (with the function that it returns), shape and number. -/
import Derived.Test.YtajebigjcggnfaaText
namespace Go.Proofs.Ytajebigjcggnfaa
open Go.RowKit
set_option linter.unusedVariables false
attribute [local go_sem ↓] Go.wp_at_zero Go.wp_at_succ

/-- a character fits a form's character -/
def okc (c f : UInt8) : Prop := if f = 48 then 48 ≤ (c.toNat : Int) ∧ (c.toNat : Int) ≤ 57 else c = f
/-- a text fits a form -/
def Fits (s f : ByteArray) : Prop := s.size = f.size ∧ ∀ (j : Nat) (h : j < s.size) (h' : j < f.size), okc s[j] f[j]

theorem u8_eq {a b : UInt8} : (a.toNat : Int) = (b.toNat : Int) ↔ a = b := by
  constructor
  · intro h; apply UInt8.toNat_inj.1; omega
  · rintro rfl; rfl

def ShapeP (s f : ByteArray) (w : World) (e : Ending) (w' : World) : Prop := (Fits s f → e = .returned (.bool true)) ∧ (¬ Fits s f → e = .returned (.bool false)) ∧ ∃ n, w' = w.drewN n

set_option maxHeartbeats 2000000 in
theorem shape_any (s f : ByteArray) (w : World) (hs : s.size ≤ maxLen) (hs2 : f.size ≤ maxLen) :
    Calls Try.prog 48 #[.string s, .string f] w (ShapeP s f w) := by
  unfold maxLen at hs hs2
  by_cases h1 : s.size = f.size
  · have hb1 : ((s.size : Int) != (f.size : Int)) = false := by rw [h1]; simp
    have hle : s.size ≤ f.size := by omega
    have H1 := Lib.hid h1
    clear h1
    go_enter Try.func48, Try.ntmps48
    go_wp2_with fail
    go_loopw [5] (fun t wr => ∃ k : Nat, k ≤ s.size ∧ t = .int .i64 (k : Int) ∧ (∀ (j : Nat) (h : j < s.size) (h' : j < f.size), j < k → okc s[j] f[j]) ∧ ∃ n, wr = w.drewN n) (fun t _ => s.size - (intOf t).toNat)
    case atStart => exact ⟨0, by omega, rfl, fun j _ _ h => absurd h (by omega), 0, rfl⟩
    case round =>
      obtain ⟨k, hk, rfl, hall, n, rfl⟩ := hrel
      have HA := Lib.hid hall
      clear hall
      by_cases hc : k < s.size
      · have hkf : k < f.size := by omega
        have i0 : (0 : Int) ≤ (k : Int) := by omega
        have i1 : (k : Int) < (s.size : Int) := by omega
        have i2 : (k : Int) < (f.size : Int) := by omega
        by_cases hok : okc s[k] f[k]
        · have hnext : ∀ (j : Nat) (h : j < s.size) (h' : j < f.size), j < k + 1 → okc s[j] f[j] := fun j h h' hj => by
            by_cases e : j = k
            · subst e; exact hok
            · exact HA.out j h h' (by omega)
          have HN := Lib.hid hnext
          clear hnext
          unfold okc at hok
          by_cases hf : f[k] = 48
          · rw [if_pos hf] at hok
            have b1 : ((f[k].toNat : Int) == 48) = true := by rw [hf]; rfl
            have b2 : ((f[k].toNat : Int) != 48) = false := by rw [hf]; rfl
            have b3 : decide ((s[k].toNat : Int) < 48) = false := by simp; omega
            have b4 : decide (57 < (s[k].toNat : Int)) = false := by simp; omega
            clear hok hf
            go_wp2_with fail
            go_quiet (fail)
            go_wp2_with fail
            go_roundw
            case rel => exact ⟨k + 1, by omega, by go_num, HN.out, _, rfl⟩
            case measure => simp [intOf]; omega
          · rw [if_neg hf] at hok
            have hne : ¬ (f[k].toNat : Int) = 48 := fun h => hf (by apply UInt8.toNat_inj.1; rw [show (48 : UInt8).toNat = 48 from rfl]; omega)
            have b1 : ((f[k].toNat : Int) == 48) = false := by rw [beq_eq_false_iff_ne]; exact hne
            have b2 : ((f[k].toNat : Int) != 48) = true := by rw [bne_iff_ne]; exact hne
            have b3 : ((s[k].toNat : Int) != (f[k].toNat : Int)) = false := by rw [hok]; simp
            clear hok hf hne
            go_wp2_with fail
            go_quiet (fail)
            go_wp2_with fail
            go_roundw
            case rel => exact ⟨k + 1, by omega, by go_num, HN.out, _, rfl⟩
            case measure => simp [intOf]; omega
        · have hnf : ¬ Fits s f := fun h => hok (h.2 k hc hkf)
          have HNF := Lib.hid hnf
          clear hnf
          unfold okc at hok
          by_cases hf : f[k] = 48
          · rw [if_pos hf] at hok
            have b1 : ((f[k].toNat : Int) == 48) = true := by rw [hf]; rfl
            have b2 : ((f[k].toNat : Int) != 48) = false := by rw [hf]; rfl
            by_cases hlo : (s[k].toNat : Int) < 48
            · have b3 : decide ((s[k].toNat : Int) < 48) = true := by simpa using hlo
              clear hok hf hlo
              go_wp2_with fail
              go_quiet (fail)
              go_wp2_with fail
              go_ret
              exact ⟨fun h => absurd h HNF.out, fun _ => rfl, _, World.drewN_drewN _ _ _⟩
            · have b3 : decide ((s[k].toNat : Int) < 48) = false := by simpa using hlo
              have b4 : decide (57 < (s[k].toNat : Int)) = true := by simp; omega
              clear hok hf hlo
              go_wp2_with fail
              go_quiet (fail)
              go_wp2_with fail
              go_ret
              exact ⟨fun h => absurd h HNF.out, fun _ => rfl, _, World.drewN_drewN _ _ _⟩
          · rw [if_neg hf] at hok
            have hne : ¬ (f[k].toNat : Int) = 48 := fun h => hf (by apply UInt8.toNat_inj.1; rw [show (48 : UInt8).toNat = 48 from rfl]; omega)
            have b1 : ((f[k].toNat : Int) == 48) = false := by rw [beq_eq_false_iff_ne]; exact hne
            have b2 : ((f[k].toNat : Int) != 48) = true := by rw [bne_iff_ne]; exact hne
            have b3 : ((s[k].toNat : Int) != (f[k].toNat : Int)) = true := by rw [bne_iff_ne]; intro h; exact hok (u8_eq.1 h)
            clear hok hf hne
            go_wp2_with fail
            go_quiet (fail)
            go_wp2_with fail
            go_ret
            exact ⟨fun h => absurd h HNF.out, fun _ => rfl, _, World.drewN_drewN _ _ _⟩
      · have hft : Fits s f := ⟨H1.out, fun j h h' => HA.out j h h' (by omega)⟩
        have HFT := Lib.hid hft
        clear hft
        go_wp2_with fail
        go_ret
        exact ⟨fun _ => rfl, fun h => absurd HFT.out h, _, rfl⟩
  · have hb1 : ((s.size : Int) != (f.size : Int)) = true := by rw [bne_iff_ne]; omega
    have hnf : ¬ Fits s f := fun h => h1 h.1
    have HNF := Lib.hid hnf
    clear hnf h1
    go_enter Try.func48, Try.ntmps48
    go_wp2_with fail
    go_ret
    exact ⟨fun h => absurd h HNF.out, fun _ => rfl, 0, rfl⟩

def FieldsP (s f : ByteArray) (w : World) (e : Ending) (w' : World) : Prop :=
  (Fits s f → e = .returned (.tuple #[.func (Fn.func 50) #[] #[.pointer (some ⟨w.heap.size, 0, none⟩)], .bool true]) ∧ At w' w.heap.size 9 #[.string s]) ∧ (¬ Fits s f → e = .returned (.tuple #[.nilFunc, .bool false])) ∧ Below w.heap.size w w'

set_option maxHeartbeats 2000000 in
theorem fields_any (s f : ByteArray) (w : World) (hs : s.size ≤ maxLen) (hs2 : f.size ≤ maxLen) :
    Calls Try.prog 46 #[.string s, .string f] w (FieldsP s f w) := by
  unfold maxLen at hs hs2
  have hB0 : Below w.heap.size w (w.alloc (.cells #[.string s] 9)) := (Below.refl _ _).alloc (Nat.le_refl _) _
  have hA0 := At.new w 9 #[.string s]
  by_cases h1 : s.size = f.size
  · have hb1 : ((s.size : Int) != (f.size : Int)) = false := by rw [h1]; simp
    have hle : s.size ≤ f.size := by omega
    have H1 := Lib.hid h1
    clear h1
    go_enter Try.func46, Try.ntmps46
    go_wp2_with fail
    go_loopw [14] (fun t wr => ∃ k : Nat, k ≤ s.size ∧ t = .int .i64 (k : Int) ∧ (∀ (j : Nat) (h : j < s.size) (h' : j < f.size), j < k → okc s[j] f[j]) ∧ ∃ n, wr = (w.alloc (.cells #[.string s] 9)).drewN n) (fun t _ => s.size - (intOf t).toNat)
    case atStart => exact ⟨0, by omega, rfl, fun j _ _ h => absurd h (by omega), 0, rfl⟩
    case round =>
      obtain ⟨k, hk, rfl, hall, n, rfl⟩ := hrel
      have HA := Lib.hid hall
      clear hall
      by_cases hc : k < s.size
      · have hkf : k < f.size := by omega
        have i0 : (0 : Int) ≤ (k : Int) := by omega
        have i1 : (k : Int) < (s.size : Int) := by omega
        have i2 : (k : Int) < (f.size : Int) := by omega
        by_cases hok : okc s[k] f[k]
        · have hnext : ∀ (j : Nat) (h : j < s.size) (h' : j < f.size), j < k + 1 → okc s[j] f[j] := fun j h h' hj => by
            by_cases e : j = k
            · subst e; exact hok
            · exact HA.out j h h' (by omega)
          have HN := Lib.hid hnext
          clear hnext
          unfold okc at hok
          by_cases hf : f[k] = 48
          · rw [if_pos hf] at hok
            have b1 : ((f[k].toNat : Int) == 48) = true := by rw [hf]; rfl
            have b2 : ((f[k].toNat : Int) != 48) = false := by rw [hf]; rfl
            have b3 : decide ((s[k].toNat : Int) < 48) = false := by simp; omega
            have b4 : decide (57 < (s[k].toNat : Int)) = false := by simp; omega
            clear hok hf
            go_wp2_with fail
            go_quiet (fail)
            go_wp2_with fail
            go_roundw
            case rel => exact ⟨k + 1, by omega, by go_num, HN.out, _, rfl⟩
            case measure => simp [intOf]; omega
          · rw [if_neg hf] at hok
            have hne : ¬ (f[k].toNat : Int) = 48 := fun h => hf (by apply UInt8.toNat_inj.1; rw [show (48 : UInt8).toNat = 48 from rfl]; omega)
            have b1 : ((f[k].toNat : Int) == 48) = false := by rw [beq_eq_false_iff_ne]; exact hne
            have b2 : ((f[k].toNat : Int) != 48) = true := by rw [bne_iff_ne]; exact hne
            have b3 : ((s[k].toNat : Int) != (f[k].toNat : Int)) = false := by rw [hok]; simp
            clear hok hf hne
            go_wp2_with fail
            go_quiet (fail)
            go_wp2_with fail
            go_roundw
            case rel => exact ⟨k + 1, by omega, by go_num, HN.out, _, rfl⟩
            case measure => simp [intOf]; omega
        · have hnf : ¬ Fits s f := fun h => hok (h.2 k hc hkf)
          have HNF := Lib.hid hnf
          clear hnf
          unfold okc at hok
          by_cases hf : f[k] = 48
          · rw [if_pos hf] at hok
            have b1 : ((f[k].toNat : Int) == 48) = true := by rw [hf]; rfl
            have b2 : ((f[k].toNat : Int) != 48) = false := by rw [hf]; rfl
            by_cases hlo : (s[k].toNat : Int) < 48
            · have b3 : decide ((s[k].toNat : Int) < 48) = true := by simpa using hlo
              clear hok hf hlo
              go_wp2_with fail
              go_quiet (fail)
              go_wp2_with fail
              go_ret2
              exact ⟨fun h => absurd h HNF.out, fun _ => rfl, below_drewN (below_drewN hB0 _) _⟩
            · have b3 : decide ((s[k].toNat : Int) < 48) = false := by simpa using hlo
              have b4 : decide (57 < (s[k].toNat : Int)) = true := by simp; omega
              clear hok hf hlo
              go_wp2_with fail
              go_quiet (fail)
              go_wp2_with fail
              go_ret2
              exact ⟨fun h => absurd h HNF.out, fun _ => rfl, below_drewN (below_drewN hB0 _) _⟩
          · rw [if_neg hf] at hok
            have hne : ¬ (f[k].toNat : Int) = 48 := fun h => hf (by apply UInt8.toNat_inj.1; rw [show (48 : UInt8).toNat = 48 from rfl]; omega)
            have b1 : ((f[k].toNat : Int) == 48) = false := by rw [beq_eq_false_iff_ne]; exact hne
            have b2 : ((f[k].toNat : Int) != 48) = true := by rw [bne_iff_ne]; exact hne
            have b3 : ((s[k].toNat : Int) != (f[k].toNat : Int)) = true := by rw [bne_iff_ne]; intro h; exact hok (u8_eq.1 h)
            clear hok hf hne
            go_wp2_with fail
            go_quiet (fail)
            go_wp2_with fail
            go_ret2
            exact ⟨fun h => absurd h HNF.out, fun _ => rfl, below_drewN (below_drewN hB0 _) _⟩
      · have hft : Fits s f := ⟨H1.out, fun j h h' => HA.out j h h' (by omega)⟩
        have HFT := Lib.hid hft
        clear hft
        go_wp2_with fail
        go_ret2
        exact ⟨fun _ => ⟨rfl, hA0.drewN n⟩, fun h => absurd HFT.out h, below_drewN hB0 n⟩
  · have hb1 : ((s.size : Int) != (f.size : Int)) = true := by rw [bne_iff_ne]; omega
    have hnf : ¬ Fits s f := fun h => h1 h.1
    have HNF := Lib.hid hnf
    clear hnf h1
    go_enter Try.func46, Try.ntmps46
    go_wp2_with fail
    go_ret2
    exact ⟨fun h => absurd h HNF.out, fun _ => rfl, hB0⟩

theorem val_le (l : List UInt8) (h : l.length ≤ 4) (hd : ∀ c ∈ l, Dig.isD c) : 0 ≤ Dig.val l ∧ Dig.val l ≤ 9999 := by
  have := Dig.val_nonneg l.length l rfl hd
  refine ⟨this.1, ?_⟩
  have h2 := this.2
  match hl : l.length, h with
  | 0, _ => rw [hl] at h2; simp [Dig.p10] at h2; omega
  | 1, _ => rw [hl] at h2; simp [Dig.p10] at h2; omega
  | 2, _ => rw [hl] at h2; simp [Dig.p10] at h2; omega
  | 3, _ => rw [hl] at h2; simp [Dig.p10] at h2; omega
  | 4, _ => rw [hl] at h2; simp [Dig.p10] at h2; omega

theorem toList_get (s : ByteArray) (k : Nat) (h : k < s.size) : s.data.toList[k]? = some s[k] := by
  rw [List.getElem?_eq_getElem (by simpa using h)]; rfl
theorem drop_take_snoc (s : ByteArray) (a k : Nat) (h : a + k < s.size) : (s.data.toList.drop a).take (k + 1) = (s.data.toList.drop a).take k ++ [s[a + k]] := by
  rw [List.take_add_one, List.getElem?_drop, toList_get s (a + k) h]; rfl

set_option maxHeartbeats 1000000 in
/-- the function that fields returns -/
theorem clos (s : ByteArray) (b a wd : Nat) (w : World) (hc : w.cell? ⟨b, 0, none⟩ = some (.string s)) (hw : wd ≤ 4) (hs : a + wd ≤ s.size) (hs2 : s.size ≤ 1000) (hd : ∀ (j : Nat) (h : j < s.size), a ≤ j → j < a + wd → Dig.isD s[j]) :
    Calls Try.prog 50 #[.int .i64 (a : Int), .int .i64 (wd : Int), .pointer (some ⟨b, 0, none⟩)] w fun e w' => e = .returned (.int .i64 (Dig.val ((s.data.toList.drop a).take wd))) ∧ w = w' := by
  have HD := Lib.hid hd
  clear hd
  go_enter Try.func50, Try.ntmps50
  go_wp2_with fail
  go_loop [6, 9] (fun t6 t9 => ∃ k : Nat, k ≤ wd ∧ t9 = .int .i64 (k : Int) ∧ t6 = .int .i64 (Dig.val ((s.data.toList.drop a).take k))) (fun _ t9 => wd - (intOf t9).toNat)
  case atStart => exact ⟨0, by omega, rfl, rfl⟩
  case round =>
    obtain ⟨k, hk, rfl, rfl⟩ := hrel
    by_cases hlt : k < wd
    · have hv := val_le ((s.data.toList.drop a).take k) (by rw [List.length_take]; omega) (fun c hc => by
        rw [List.mem_iff_getElem?] at hc
        obtain ⟨i, hi⟩ := hc
        rw [List.getElem?_take] at hi
        split at hi
        · rename_i hik
          rw [List.getElem?_drop, toList_get s (a + i) (by omega)] at hi
          obtain rfl := Option.some.inj hi
          exact HD.out _ _ (by omega) (by omega)
        · cases hi)
      have hn := Lib.hid (drop_take_snoc s a k (by omega))
      have hlt2 : a + k < s.size := by omega
      have hdk := HD.out (a + k) hlt2 (by omega) (by omega)
      unfold Dig.isD at hdk
      generalize hq : Dig.val ((s.data.toList.drop a).take k) = q at *
      have HQ := Lib.hid hq
      clear hq
      go_wp2_with fail
      go_round
      case rel => exact ⟨k + 1, by omega, by go_num, by rw [hn.out, Dig.val_snoc, HQ.out]⟩
      case measure => simp [intOf]; omega
    · obtain rfl : k = wd := by omega
      go_wp2_with fail
      go_ret
      exact ⟨rfl, rfl⟩

set_option maxHeartbeats 1000000 in
/-- the reference's number -/
theorem rnumber (s : ByteArray) (w : World) (hs : s.size ≤ 4) (hd : ∀ (j : Nat) (h : j < s.size), Dig.isD s[j]) :
    Calls Try.prog 49 #[.string s] w fun e w' => e = .returned (.int .i64 (Dig.val s.data.toList)) ∧ w = w' := by
  have HD := Lib.hid hd
  clear hd
  go_enter Try.func49, Try.ntmps49
  go_wp2_with fail
  go_loop [3, 4] (fun t3 t4 => ∃ k : Nat, k ≤ s.size ∧ t4 = .int .i64 (k : Int) ∧ t3 = .int .i64 (Dig.val (s.data.toList.take k))) (fun _ t4 => s.size - (intOf t4).toNat)
  case atStart => exact ⟨0, by omega, rfl, rfl⟩
  case round =>
    obtain ⟨k, hk, rfl, rfl⟩ := hrel
    by_cases hlt : k < s.size
    · have hv := val_le (s.data.toList.take k) (by rw [List.length_take]; omega) (fun c hc => by
        rw [List.mem_iff_getElem?] at hc
        obtain ⟨i, hi⟩ := hc
        rw [List.getElem?_take] at hi
        split at hi
        · rename_i hik
          rw [toList_get s i (by omega)] at hi
          obtain rfl := Option.some.inj hi
          exact HD.out _ _
        · cases hi)
      have h0 := drop_take_snoc s 0 k (by omega)
      simp only [List.drop_zero, Nat.zero_add] at h0
      have hn := Lib.hid h0
      have hdk := HD.out k hlt
      unfold Dig.isD at hdk
      clear h0
      generalize hq : Dig.val (s.data.toList.take k) = q at *
      have HQ := Lib.hid hq
      clear hq
      go_wp2_with fail
      go_round
      case rel => exact ⟨k + 1, by omega, by go_num, by rw [hn.out, Dig.val_snoc, HQ.out]⟩
      case measure => simp [intOf]; omega
    · obtain rfl : k = s.size := by omega
      have he : s.data.toList.take s.size = s.data.toList := List.take_of_length_le (by simp)
      have HE := Lib.hid he
      clear he
      go_wp2_with fail
      go_ret
      exact ⟨ret_int (by rw [HE.out]), rfl⟩
end Go.Proofs.Ytajebigjcggnfaa
