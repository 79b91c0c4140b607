/- For every input the law giro/girolaw26.QueueCompare answers true; no condition. -/
import Derived.Test.YtmimfhjmhlmibaaLawCompare
import Derived.ProofKit
import Derived.OpenShut
import Derived.ShutString
import Derived.ChangeOld
import Derived.Below
import Derived.Lib.SmallJoins
namespace Go.Proofs.Ytmimfhjmhlmibaa.queueCompare
open Go.ChangeShapes Go.WideShapes Go.ChangeAt Go.RowKit Go.Joins
open Go.ChangeMaps (open_string shut_string)
set_option linter.unusedVariables false

theorem own : ownKnob Try.prog.godebug = none := by kernel_rfl
theorem laidOut : laidOutB Try.prog = true := by kernel_rfl
theorem cells_0 : Try.prog.cellsOf 23 = 4 := by kernel_rfl
theorem cells_1 : Try.prog.cellsOf 23 = 4 := by kernel_rfl
theorem cells_2 : Try.prog.cellsOf 23 = 4 := by kernel_rfl

set_option maxRecDepth 100000 in
theorem lifted (os : Os) (started : os.Started) (H : Type) (enc : TypeId × Value → H) :
    ReturnsInHanded {} Try.checked os 3 .any (Rows.queueCompareSpec.pre6 enc Try.prog Try.f3 Rows.queueCompareRow.domain false) (Rows.queueCompareSpec.post enc Try.prog Try.f3 false true false false) := by
  refine returnsInHanded_of_change (C := Try.checked) own started (by kernel_rfl) Try.func3
    (ChangeSpec.witness6 (enc := enc) (C := Try.checked) false ⟨#[], #[.agg #[.string ByteArray.empty, .int .i64 0, .int .i64 0, .int .i64 0], .agg #[.string ByteArray.empty, .int .i64 0, .int .i64 0, .int .i64 0], .agg #[.string ByteArray.empty, .int .i64 0, .int .i64 0, .int .i64 0]], []⟩ 8 (by kernel_rfl) (by kernel_rfl) (by kernel_rfl) (by kernel_rfl)) ?_
  intro W base args ds gs before hval0 hW hcnd _
  have hval : ∀ (j : Nat) t v, Try.f3.params[j]? = some t → args[j]? = some v → Value.okWide Try.prog W .any base t v := hval0
  have hW' := hW
  obtain ⟨p, q, hA0, hV, rfl, hfz, hnd⟩ := hW
  have hA : DataW.TrodAll enc Try.prog W 0 (fun _ => true) true Try.f3.params.toList args.toList ds p := hA0
  rw [Try.params3] at hA hval
  obtain ⟨v0, vs0, d0, ds0, p0, q0, hargs, rfl, rfl, h0, r0⟩ := trodAll_cons hA
  obtain ⟨v1, vs1, d1, ds1, p1, q1, rfl, rfl, rfl, h1, r1⟩ := trodAll_cons r0
  obtain ⟨v2, vs2, d2, ds2, p2, q2, rfl, rfl, rfl, h2, r2⟩ := trodAll_cons r1
  obtain ⟨rfl, rfl, rfl⟩ := trodAll_nil r2
  obtain rfl : args = #[v0, v1, v2] := by cases args; simp_all
  obtain ⟨rfl, rfl⟩ := trodVars_none hV
  have k0 := h0
  have lt0 : ∀ x ∈ p0, x.block < W.heap.size := by obtain ⟨m, hm⟩ := k0; exact DataW.trod_lt m _ _ _ hm
  have k1 := h1
  have lt1 : ∀ x ∈ p1, x.block < W.heap.size := by obtain ⟨m, hm⟩ := k1; exact DataW.trod_lt m _ _ _ hm
  have k2 := h2
  have lt2 : ∀ x ∈ p2, x.block < W.heap.size := by obtain ⟨m, hm⟩ := k2; exact DataW.trod_lt m _ _ _ hm
  obtain ⟨c00, c01, c02, c03, y00, y01, y02, y03, m0, rfl, rfl, rfl, hy00, hy01, hy02, hy03⟩ := open_agg4 Try.underlying23 (by kernel_rfl) cells_0 (hval 0 23 v0 rfl rfl) h0
  obtain ⟨a00, e00, rfl, w00⟩ := DataW.trod_string Try.underlying9 hy00
  simp at e00; subst e00
  obtain ⟨a01, e01, rfl, w01⟩ := DataW.trod_int Try.underlying3 hy01
  simp at e01; subst e01
  obtain ⟨a02, e02, rfl, w02⟩ := DataW.trod_int Try.underlying3 hy02
  simp at e02; subst e02
  obtain ⟨a03, e03, rfl, w03⟩ := DataW.trod_int Try.underlying3 hy03
  simp at e03; subst e03
  obtain ⟨c10, c11, c12, c13, y10, y11, y12, y13, m1, rfl, rfl, rfl, hy10, hy11, hy12, hy13⟩ := open_agg4 Try.underlying23 (by kernel_rfl) cells_1 (hval 1 23 v1 rfl rfl) h1
  obtain ⟨a10, e10, rfl, w10⟩ := DataW.trod_string Try.underlying9 hy10
  simp at e10; subst e10
  obtain ⟨a11, e11, rfl, w11⟩ := DataW.trod_int Try.underlying3 hy11
  simp at e11; subst e11
  obtain ⟨a12, e12, rfl, w12⟩ := DataW.trod_int Try.underlying3 hy12
  simp at e12; subst e12
  obtain ⟨a13, e13, rfl, w13⟩ := DataW.trod_int Try.underlying3 hy13
  simp at e13; subst e13
  obtain ⟨c20, c21, c22, c23, y20, y21, y22, y23, m2, rfl, rfl, rfl, hy20, hy21, hy22, hy23⟩ := open_agg4 Try.underlying23 (by kernel_rfl) cells_2 (hval 2 23 v2 rfl rfl) h2
  obtain ⟨a20, e20, rfl, w20⟩ := DataW.trod_string Try.underlying9 hy20
  simp at e20; subst e20
  obtain ⟨a21, e21, rfl, w21⟩ := DataW.trod_int Try.underlying3 hy21
  simp at e21; subst e21
  obtain ⟨a22, e22, rfl, w22⟩ := DataW.trod_int Try.underlying3 hy22
  simp at e22; subst e22
  obtain ⟨a23, e23, rfl, w23⟩ := DataW.trod_int Try.underlying3 hy23
  simp at e23; subst e23
  clear hA0 hval0
  refine (queueCompare_walk a00 w00 a01 w01 a02 w02 a03 w03 a10 w10 a11 w11 a12 w12 a13 w13 a20 w20 a21 w21 a22 w22 a23 w23 W).mono fun e W' ⟨he, bel⟩ => ?_
  subst he
  exact ⟨_, rfl, _, _, _, [], _, [], hW', trodAll_mk1 (shut_bool Try.underlying4 _), (trodAll_cons_mk (Below.trod laidOut (by kernel_rfl) (of_decide_eq_true (by kernel_rfl)) k0 bel lt0) (trodAll_cons_mk (Below.trod laidOut (by kernel_rfl) (of_decide_eq_true (by kernel_rfl)) k1 bel lt1) (trodAll_cons_mk (Below.trod laidOut (by kernel_rfl) (of_decide_eq_true (by kernel_rfl)) k2 bel lt2) trodAll_mk0))), rfl, bel.frame _, fun h => by cases h⟩

theorem over : Rows.queueCompareRow.holds Try.pinned (OpenSpec.ofChange Rows.queueCompareSpec) :=
  OpenClaim.holds_of_wide 3 Try.f3 rfl rfl rfl rfl rfl rfl rfl ⟨rfl, rfl, rfl, rfl, rfl⟩ rfl rfl rfl rfl rfl (by kernel_rfl) Try.func3 (by kernel_rfl)
    (of_decide_eq_true (by kernel_rfl)) (by unfold Func.isWrapper; first | (rw [if_pos (by decide +kernel)]; kernel_rfl) | (rw [if_neg (by decide +kernel)]; exact ⟨rfl, rfl⟩))
    (fun os started H enc _ => lifted os started H enc)

theorem proved : Rows.QueueCompareSaid := over
#print axioms proved
end Go.Proofs.Ytmimfhjmhlmibaa.queueCompare
