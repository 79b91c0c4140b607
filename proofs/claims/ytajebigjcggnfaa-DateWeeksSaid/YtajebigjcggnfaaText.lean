/- The walks of digits and Format, and of the reference's digits and Format. -/
import Derived.Test.YtajebigjcggnfaaAdd
import Derived.Test.YtajebigjcggnfaaDig
import Derived.Test.YtajebigjcggnfaaBytes
namespace Go.Proofs.Ytajebigjcggnfaa
open Go.RowKit
set_option linter.unusedVariables false
attribute [local go_sem ↓] Go.wp_at_zero Go.wp_at_succ

/-- 'string([]byte{..})' of one byte -/
theorem conv_one (q : Int) (W : World) : (convert 67 9 (.slice (some ⟨W.heap.size, 0, none⟩) 1 1)).run Try.prog (W.alloc (.cells #[.int .u8 (48 + q % 10)] 5)) =
    .ok (.string ⟨#[Dig.ch q]⟩) (W.alloc (.cells #[.int .u8 (48 + q % 10)] 5)) := by
  have h := run_convert_bytes_back (P := Try.prog) (W.alloc (.cells #[.int .u8 (48 + q % 10)] 5)) 67 9 5 ⟨W.heap.size, 0, none⟩ 1 [Dig.ch q] Try.underlying67 Try.underlying5 Try.underlying9
    (fun j hj => by
      obtain rfl : j = 0 := by simpa using hj
      simp [Dig.ch_val, Addr.add])
  simpa using h

/-- what digits gives: the row with more digits -/
def Grew (B : Nat) (l : List UInt8) (w : World) (e : Ending) (w' : World) : Prop :=
  ∃ v', e = .returned v' ∧ OwnB w' B v' l ∧ Below B w w'

set_option maxHeartbeats 1000000 in
theorem digits_any (k : Nat) : ∀ (n wid : Int) (B : Nat) (v : Value) (l : List UInt8) (w : World), 0 ≤ n → n ≤ 1000000 → n < Dig.p10 (k + 1) → wid = k + 1 → OwnB w B v l → B ≤ w.heap.size → l.length + k + 1 ≤ 1000 →
    Calls Try.prog 45 #[v, .int .i64 n, .int .i64 wid] w (Grew B (l ++ Dig.dg n (k + 1)) w) := by
  induction k with
  | zero =>
    intro n wid B v l w n0 n6 n1 hw hown hB hm
    obtain rfl : wid = 1 := by omega
    have n9 : n ≤ 9 := by simp only [Dig.p10] at n1; omega
    clear n1 hw
    have EC := Lib.hid (Dig.ch_val n)
    go_enter Try.func45, Try.ntmps45
    go_wp2_with (at_builtin; refine wpList_append_byte rfl _ _ rfl B v l rfl (hown.alloc _) (Dig.ch n) ⟨w.heap.size, 0, none⟩ rfl ?c1 ?c2 ?c3 ?_)
    case c1 => simp [bv, EC.out]
    case c2 => omega
    case c3 => simp; omega
    intro v' w1 hown1 hb1
    have hB1 : Below B w w1 := ((Below.refl B w).alloc hB _).trans hb1
    clear hb1
    go_wp2
    go_ret
    exact ⟨v', rfl, by simpa [Dig.dg] using hown1, hB1⟩
  | succ k ih =>
    intro n wid B v l w n0 n6 n1 hw hown hB hm
    have EC := Lib.hid (Dig.ch_val n)
    have hq : n / 10 < Dig.p10 (k + 1) := by rw [Dig.p10] at n1; omega
    have hw1 : wid - 1 = (k : Int) + 1 := by omega
    have q0 : 0 ≤ n / 10 := by omega
    have q6 : n / 10 ≤ 1000000 := by omega
    have w2 : 1 < wid := by omega
    have w3 : wid ≤ 1000 := by omega
    have IH := Lib.hid (fun W => ih (n / 10) (wid - 1) B v l W q0 q6 hq hw1)
    have hlen := Dig.dg_length (n / 10) (k + 1)
    have HL := Lib.hid hlen
    clear ih hq hw hw1 n1 hlen
    go_enter Try.func45, Try.ntmps45
    go_wp2_with fail
    refine (IH.out _ hown hB (by omega)).mono ?_
    rintro e w1 ⟨v1, rfl, hown1, hb1⟩
    have hs := hb1.size
    go_wp2_with (at_builtin; refine wpList_append_byte rfl _ _ rfl B v1 (l ++ Dig.dg (n / 10) (k + 1)) rfl (hown1.alloc _) (Dig.ch n) ⟨w1.heap.size, 0, none⟩ rfl ?c1 ?c2 ?c3 ?_)
    case c1 => simp [bv, EC.out]
    case c2 => rw [List.length_append, HL.out]; omega
    case c3 => simp; omega
    intro v' w2 hown2 hb2
    have hB1 : Below B w w2 := (hb1.alloc (by omega) _).trans hb2
    clear hb2
    go_wp2
    go_ret
    exact ⟨v', rfl, by simpa [Dig.dg] using hown2, hB1⟩

set_option maxHeartbeats 1000000 in
/-- the reference's digits: the text, and a world in which nothing that was there has changed -/
theorem rdigits (k : Nat) (n wid : Int) (w : World) (n0 : 0 ≤ n) (n6 : n ≤ 1000000) (hw : wid = k) (hk : k ≤ 10) :
    Calls Try.prog 47 #[.int .i64 n, .int .i64 wid] w fun e w' => e = .returned (.string ⟨(Dig.dg n k).toArray⟩) ∧ Below w.heap.size w w' := by
  have HW := Lib.hid hw
  have hw2 : wid ≤ 10 := by omega
  have hw3 : 0 ≤ wid := by omega
  clear hw
  go_enter Try.func47, Try.ntmps47
  go_wp2_with fail
  go_loopw [0, 5, 6] (fun t0 t5 t6 wr => ∃ (q : Int) (j : Nat), 0 ≤ q ∧ q ≤ 1000000 ∧ (j : Int) ≤ wid ∧ t0 = .int .i64 q ∧ t6 = .int .i64 (j : Int) ∧ (∃ l : List UInt8, t5 = .string ⟨l.toArray⟩ ∧ l.length = j ∧ ∀ i : Nat, Dig.dg q i ++ l = Dig.dg n (i + j)) ∧ Below w.heap.size w wr) (fun _ _ t6 _ => (wid - intOf t6).toNat)
  case atStart => exact ⟨n, 0, n0, n6, by omega, rfl, rfl, ⟨[], rfl, rfl, by simp⟩, Below.refl _ _⟩
  case round =>
    obtain ⟨q, j, q0, q6, hj, rfl, rfl, ⟨l, rfl, hll, hl⟩, hB⟩ := hrel
    have HL := Lib.hid hl
    have hl10 : l.length ≤ 10 := by omega
    have HLL := Lib.hid hll
    clear hl hll
    by_cases hc : (j : Int) < wid
    · have hcv := conv_one q
      go_wp2_with fail
      go_roundw
      case rel =>
        have e0 : (ByteArray.mk #[Dig.ch q]) ++ (ByteArray.mk l.toArray) = ByteArray.mk (Dig.ch q :: l).toArray := by
          apply ByteArray.ext; simp [ByteArray.data_append]
        exact ⟨q / 10, j + 1, by omega, by omega, by omega, rfl, by go_num, ⟨Dig.ch q :: l, by rw [e0], by simp [HLL.out], fun i => by have := HL.out (i + 1); rw [show i + (j + 1) = i + 1 + j from by omega, ← this]; simp [Dig.dg]⟩, hB.alloc hB.size _⟩
      case measure => simp [intOf]; omega
    · go_wp2_with fail
      go_ret
      refine ⟨?_, hB⟩
      have h0 := HL.out 0
      simp only [Dig.dg, List.nil_append] at h0
      have := HW.out
      have hj2 : 0 + j = k := by omega
      rw [hj2] at h0
      simp [h0]

/-- the reference's digits at a literal width -/
theorem rdigits_any (n wid : Int) (w : World) (n0 : 0 ≤ n) (n6 : n ≤ 1000000) (hw : 0 ≤ wid ∧ wid ≤ 10) :
    Calls Try.prog 47 #[.int .i64 n, .int .i64 wid] w fun e w' => e = .returned (.string ⟨(Dig.dg n wid.toNat).toArray⟩) ∧ Below w.heap.size w w' :=
  rdigits wid.toNat n wid w n0 n6 (by omega) (by omega)

/-- the text of a date -/
def dtext (y m d : Int) : List UInt8 := Dig.dg y 4 ++ [45] ++ Dig.dg m 2 ++ [45] ++ Dig.dg d 2

set_option maxHeartbeats 1000000 in
theorem format_bad (n : Int) (w : World) (h : n < 0 ∨ 73048 < n) :
    Calls Try.prog 32 #[.int .i64 n] w fun e w' => e = .returned (.tuple #[.string ⟨#[]⟩, .int .i64 2]) ∧ Below w.heap.size w w' := by
  go_enter Try.func32, Try.ntmps32
  go_wp2_with fail
  refine (to_no _ _ h).mono ?_
  rintro e w1 ⟨rfl, hb⟩
  go_wp2_with fail
  go_ret2
  exact ⟨rfl, (bstep (Below.refl _ _) hb).alloc hb.size _⟩

set_option maxHeartbeats 2000000 in
theorem format_ok (n y m d : Int) (w : World) (h : Cal.vld y m d) (hn : Cal.num y m d = n) :
    Calls Try.prog 32 #[.int .i64 n] w fun e w' => e = .returned (.tuple #[.string ⟨(dtext y m d).toArray⟩, .int .i64 0]) ∧ Below w.heap.size w w' := by
  have HV := Lib.hid h
  have HN := Lib.hid hn
  obtain ⟨v1, v2, v3, v4, v5, v6⟩ := h
  have hl := Cal.len_bd y m v3 v4
  clear hn
  go_enter Try.func32, Try.ntmps32
  go_wp2_with fail
  refine (to_ok _ y m d _ HV.out HN.out).mono ?_
  rintro e w1 ⟨rfl, hb⟩
  have hs1 := hb.size
  have hB := (bstep (Below.refl _ _) hb).alloc hb.size (Obj.cells #[Value.int IntKind.i64 y, Value.int IntKind.i64 m, Value.int IntKind.i64 d] 26)
  clear hb
  go_wp2_with fail
  have hA1 := At.new w1 26 #[Value.int IntKind.i64 y, Value.int IntKind.i64 m, Value.int IntKind.i64 d]
  refine (digits_any 3 y 4 (w1.heap.size + 1) (.slice none 0 0) [] _ (by omega) (by omega) (by simp [Dig.p10]; omega) (by omega) (OwnB.nil _ _) (by simp) (by simp)).mono ?_
  rintro e w2 ⟨u1, rfl, ho2, hb2⟩
  have hA2 := hA1.below hb2 (by omega)
  have hB2 : Below w.heap.size w w2 := hB.trans (hb2.mono (by omega))
  have hs2 := hb2.size
  simp at hs2
  clear hA1 hb2 hB
  go_wp2_with (at_builtin; refine wpList_append_byte rfl _ _ rfl (w1.heap.size + 1) u1 _ rfl (ho2.alloc _) 45 ⟨w2.heap.size, 0, none⟩ rfl ?c1 ?c2 ?c3 ?_)
  case c1 => simp [bv]
  case c2 => simp [Dig.dg_length]
  case c3 => simp; omega
  intro u2 w3 ho3 hb3
  have hA3 := (hA2.alloc _).below hb3 (by omega)
  have hB3 := (hB2.alloc (by omega) _).trans (hb3.mono (by omega))
  have hs3 := hb3.size
  simp at hs3
  obtain ⟨c0, c1, c2, f0, f1, f2⟩ := hA3.three
  clear hb3
  go_wp2_with fail
  refine (digits_any 1 m 2 (w1.heap.size + 1) u2 _ _ (by omega) (by omega) (by simp [Dig.p10]; omega) (by omega) ho3 (by omega) (by simp [Dig.dg_length])).mono ?_
  rintro e w4 ⟨u3, rfl, ho4, hb4⟩
  clear c0 c1 c2 f0 f1 f2
  have hA4 := hA3.below hb4 (by omega)
  have hB4 := hB3.trans (hb4.mono (by omega))
  have hs4 := hb4.size
  clear hA2 hA3 hb4 ho2 ho3 hB2 hB3
  go_wp2_with (at_builtin; refine wpList_append_byte rfl _ _ rfl (w1.heap.size + 1) u3 _ rfl (ho4.alloc _) 45 ⟨w4.heap.size, 0, none⟩ rfl ?c1 ?c2 ?c3 ?_)
  case c1 => simp [bv]
  case c2 => simp [Dig.dg_length]
  case c3 => simp; omega
  intro u4 w5 ho5 hb5
  have hA5 := (hA4.alloc _).below hb5 (by omega)
  have hB5 := (hB4.alloc (by omega) _).trans (hb5.mono (by omega))
  have hs5 := hb5.size
  simp at hs5
  obtain ⟨c0, c1, c2, f0, f1, f2⟩ := hA5.three
  clear hb5
  go_wp2_with fail
  refine (digits_any 1 d 2 (w1.heap.size + 1) u4 _ _ (by omega) (by omega) (by simp [Dig.p10]; omega) (by omega) ho5 (by omega) (by simp [Dig.dg_length])).mono ?_
  rintro e w6 ⟨u5, rfl, ho6, hb6⟩
  clear c0 c1 c2 f0 f1 f2
  have hB6 := hB5.trans (hb6.mono (by omega))
  have hcv := conv_own ho6
  clear ho6 ho5 ho4 hb6
  go_wp2
  go_ret2
  exact ⟨rfl, hB6⟩

set_option maxHeartbeats 2000000 in
/-- the reference's Format -/
theorem rformat (n y m d : Int) (w : World) (h : Cal.vld y m d) (hn : Cal.num y m d = n) :
    Calls Try.prog 34 #[.int .i64 n] w fun e w' => e = .returned (.string ⟨(dtext y m d).toArray⟩) ∧ Below w.heap.size w w' := by
  have HV := Lib.hid h
  have HN := Lib.hid hn
  obtain ⟨v1, v2, v3, v4, v5, v6⟩ := h
  have hl := Cal.len_bd y m v3 v4
  clear hn
  go_enter Try.func34, Try.ntmps34
  go_wp2_with fail
  refine (rto _ y m d _ HV.out HN.out).mono ?_
  rintro e w1 ⟨rfl, hb⟩
  have hs1 := hb.size
  have hB := (bstep (Below.refl _ _) hb).alloc hb.size (Obj.cells #[Value.int IntKind.i64 y, Value.int IntKind.i64 m, Value.int IntKind.i64 d] 32)
  clear hb
  have hlen := Dig.dg_length
  go_wp2_with fail
  go_region_held3 (fun w' => w'.cell? ⟨w1.heap.size, 0, none⟩ = some (.int .i64 y) ∧ w'.cell? ⟨w1.heap.size, 1, none⟩ = some (.int .i64 m) ∧ w'.cell? ⟨w1.heap.size, 2, none⟩ = some (.int .i64 d)) (go_keep)
    (first | (go_at_call 47; refine (rdigits_any _ _ _ (by omega) (by omega) (by decide)).mono ?_; rintro e w2 ⟨rfl, hb2⟩; obtain ⟨hc, hf⟩ := bcell hb2; have hlt : w1.heap.size < w2.heap.size := (by (have := hb2.size; first | omega | (simp at this; omega))); have hB : Below w.heap.size w w2 := Below.trans (by (repeat (first | exact hB | refine Below.drew ?_ | refine below_drewN ?_ _))) (hb2.mono (by first | omega | (simp; omega)))))
  go_wp2
  go_ret
  refine ⟨?_, hB⟩
  have ec : (ByteArray.mk (Dig.dg y 4).toArray) ++ (ByteArray.mk #[45]) ++ (ByteArray.mk (Dig.dg m 2).toArray) ++ (ByteArray.mk #[45]) ++ (ByteArray.mk (Dig.dg d 2).toArray) = ByteArray.mk (dtext y m d).toArray := by
    apply ByteArray.ext; simp [ByteArray.data_append, dtext]
  simp [ec]
end Go.Proofs.Ytajebigjcggnfaa
