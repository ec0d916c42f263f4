/-
  'Rows.FnSortYieldsModelOrderSaid', PROVED.
-/
import Derived.Test.YoegbwRows
import Derived.Test.YoegbwLawD
import Derived.Test.YoegbwOpenS
import Derived.ProofKit
namespace Go.Proofs.Yoegbw
open Go.ChangeShapes Go.WideShapes Go.ChangeAt Go.RowKit

set_option maxRecDepth 100000 in
theorem modelLaw_lifted (os : Os) (started : os.Started) (H : Type) (enc : TypeId × Value → H) :
    ReturnsInHanded {} Egbg.checked os 4 .any (Rows.fnSortYieldsModelOrderSpec.pre6 enc Egbg.prog Egbg.f4 Rows.fnSortYieldsModelOrderRow.domain false) (Rows.fnSortYieldsModelOrderSpec.post enc Egbg.prog Egbg.f4 false true false false) := by
  refine returnsInHanded_of_change (C := Egbg.checked) Egbg.own started (by kernel_rfl) Egbg.func4
    (ChangeSpec.witness6 (enc := enc) (C := Egbg.checked) false ⟨#[], #[.slice none 0 0], []⟩ 8 (by kernel_rfl) (by kernel_rfl) (by kernel_rfl) (by kernel_rfl)) ?_
  intro W base args ds gs before hval0 hW hcnd _
  have hval : ∀ (j : Nat) t v, Egbg.f4.params[j]? = some t → args[j]? = some v → Value.okWide Egbg.prog W .any base t v := hval0
  have hW' := hW
  obtain ⟨p, q, hA0, hV, rfl, hfz, hnd⟩ := hW
  have hA : DataW.TrodAll enc Egbg.prog W 0 (fun _ => true) true Egbg.f4.params.toList args.toList ds p := hA0
  rw [Egbg.params4] at hA hval
  obtain ⟨v0, d0, rfl, rfl, h0⟩ := trodAll_one hA
  obtain ⟨rfl, rfl⟩ := trodVars_none hV
  obtain ⟨a, n, cap, z, rfl, hn, hx, hs⟩ := open32 (hval 0 32 v0 rfl rfl) h0
  clear hA0 hval0
  simp only [List.append_nil] at hW'
  have hlt : ∀ x ∈ p, x.block < W.heap.size := fun x hx => by simpa using hW'.lt x hx
  refine (law4_any a n cap z W hn hx hs).mono fun e W' ⟨he, hb⟩ => ?_
  subst he
  refine ⟨_, rfl, _, _, _, [], p, [], hW', ?_, ?_, ?_, hb.frame _, fun h => by cases h⟩
  · exact trodAll_mk1 (shut_bool Egbg.underlying4 _)
  · exact trodAll_mk1 (Below.trod Egbg.laidOut (by kernel_rfl) (of_decide_eq_true (by kernel_rfl)) h0 hb hlt)
  · exact rfl

theorem modelLaw_holds : Rows.FnSortYieldsModelOrderSaid :=
  OpenClaim.holds_of_wide 4 Egbg.f4 rfl rfl rfl rfl rfl rfl rfl ⟨rfl, rfl, rfl, rfl, rfl⟩ rfl rfl rfl rfl rfl (by kernel_rfl) Egbg.func4 (by kernel_rfl)
    (of_decide_eq_true (by kernel_rfl)) (by unfold Func.isWrapper; first | (rw [if_pos (by decide +kernel)]; kernel_rfl) | (rw [if_neg (by decide +kernel)]; exact ⟨rfl, rfl⟩))
    (fun os started H enc _ => modelLaw_lifted os started H enc)
#print axioms modelLaw_holds

end Go.Proofs.Yoegbw
