/-
  'Rows.FnLessStrictWeakOrderSaid', PROVED.
-/
import Derived.Test.YoegbwRows
import Derived.Test.YoegbwLawA
import Derived.Test.YoegbwOpen
import Derived.ProofKit
namespace Go.Proofs.Yoegbw
open Go.ChangeShapes Go.WideShapes Go.ChangeAt Go.RowKit

set_option maxRecDepth 100000 in
theorem lessLaw_lifted (os : Os) (started : os.Started) (H : Type) (enc : TypeId × Value → H) :
    ReturnsInHanded {} Egbg.checked os 3 .any (Rows.fnLessStrictWeakOrderSpec.pre6 enc Egbg.prog Egbg.f3 Rows.fnLessStrictWeakOrderRow.domain false) (Rows.fnLessStrictWeakOrderSpec.post enc Egbg.prog Egbg.f3 false true false false) := by
  refine returnsInHanded_of_change (C := Egbg.checked) Egbg.own started (by kernel_rfl) Egbg.func3
    (ChangeSpec.witness6 (enc := enc) (C := Egbg.checked) false ⟨#[], #[.agg #[.string ByteArray.empty, .int .i64 0, .int .i64 0, .int .i64 0, .string ByteArray.empty], .agg #[.string ByteArray.empty, .int .i64 0, .int .i64 0, .int .i64 0, .string ByteArray.empty], .agg #[.string ByteArray.empty, .int .i64 0, .int .i64 0, .int .i64 0, .string ByteArray.empty]], []⟩ 8 (by kernel_rfl) (by kernel_rfl) (by kernel_rfl) (by kernel_rfl)) ?_
  intro W base args ds gs before hval0 hW hcnd _
  have hval : ∀ (j : Nat) t v, Egbg.f3.params[j]? = some t → args[j]? = some v → Value.okWide Egbg.prog W .any base t v := hval0
  have hW' := hW
  obtain ⟨p, q, hA0, hV, rfl, hfz, hnd⟩ := hW
  have hA : DataW.TrodAll enc Egbg.prog W 0 (fun _ => true) true Egbg.f3.params.toList args.toList ds p := hA0
  rw [Egbg.params3] at hA hval
  obtain ⟨v0, v1, v2, d0, d1, d2, p0, p1, p2, rfl, rfl, rfl, h0, h1, h2⟩ := trodAll_three hA
  obtain ⟨rfl, rfl⟩ := trodVars_none hV
  have h0k := h0
  have h1k := h1
  have h2k := h2
  obtain ⟨x, rfl, x0, x4, rfl⟩ := open23 (hval 0 23 v0 rfl rfl) h0
  obtain ⟨y, rfl, y0, y4, rfl⟩ := open23 (hval 1 23 v1 rfl rfl) h1
  obtain ⟨z, rfl, z0, z4, rfl⟩ := open23 (hval 2 23 v2 rfl rfl) h2
  clear hA0 hval0
  simp only [List.append_nil] at hW'
  refine (law3_any x y z W x0 x4 y0 y4 z0 z4).mono fun e W' ⟨he, hb⟩ => ?_
  subst he
  refine ⟨_, rfl, _, _, _, [], [], [], hW', ?_, ?_, ?_, hb.frame _, fun h => by cases h⟩
  · exact trodAll_mk1 (shut_bool Egbg.underlying4 _)
  · exact trodAll_mk3 (Below.trod Egbg.laidOut (by kernel_rfl) (of_decide_eq_true (by kernel_rfl)) h0k hb (by simp)) (Below.trod Egbg.laidOut (by kernel_rfl) (of_decide_eq_true (by kernel_rfl)) h1k hb (by simp)) (Below.trod Egbg.laidOut (by kernel_rfl) (of_decide_eq_true (by kernel_rfl)) h2k hb (by simp))
  · exact rfl

theorem lessLaw_holds : Rows.FnLessStrictWeakOrderSaid :=
  OpenClaim.holds_of_wide 3 Egbg.f3 rfl rfl rfl rfl rfl rfl rfl ⟨rfl, rfl, rfl, rfl, rfl⟩ rfl rfl rfl rfl rfl (by kernel_rfl) Egbg.func3 (by kernel_rfl)
    (of_decide_eq_true (by kernel_rfl)) (by unfold Func.isWrapper; first | (rw [if_pos (by decide +kernel)]; kernel_rfl) | (rw [if_neg (by decide +kernel)]; exact ⟨rfl, rfl⟩))
    (fun os started H enc _ => lessLaw_lifted os started H enc)
#print axioms lessLaw_holds

end Go.Proofs.Yoegbw
