/-
  No cell of these rows narrows 'for every input' (looked for: loops, veiled, ifaces, maps, wideKeys, modest, calm, conditions, laid).
  DERIVED. THE GIVEN ROWS OF THIS SEAT. 3 by the template 'for every input the law returns true; each argument reads behind the call as it read before'; 0 by the template 'total and deterministic' (their statements: YoegbwTotals.lean).
  GIVEN WITH THE SEED: the statements are not yours to turn. If you find one false, say at which input.
  Laid BY PROGRAM, IN A SANDBOX (cutbox-rows.mjs): the forced cells as the released guide's own fill.sh prints them over the translation 07e44a3be001ca98… (all of the seat's roots in one cut). By AI agents, Wed Nov 11 2026. No macro, syntax, notation, axiom, sorry.
-/
import Derived.Test.YoegbwChecked
import GoSem.Claim
import GoSem.ClaimJoined
import GoSem.ClaimMapViews
import Derived.JoinedTies
import Derived.KernelRfl
namespace Go.Proofs.Yoegbw
/- THE CELL 'sum', in the pinned program and in every row, IS THE sha256 OF THE DUMP (.gsa) THAT YoegbwProg.lean LOADS. Nothing in Lean hashes anything: it is a label: what it is worth is what the hold of that sum in a sandbox is worth. -/
noncomputable def Egbg.pinned : Pinned := { name := "yoegbw", sum := "07e44a3be001ca98127b7d42f0fa34a70dc8abf2f3c8c7523c774d7b54fdfa04", checked := Egbg.checked }
namespace Rows
def none {H : Type} : Left H := { results := [], args := [] }

/-- 'zzlaws_parser_b28.FnLessStrictWeakOrder': WHATEVER THE INPUT: true; the input reads as it did. -/
def fnLessStrictWeakOrderSpec : ChangeSpec := { name := "fnLessStrictWeakOrder", fn := fun _ => fun
  | [d1, d2, d3] => { results := [.lit (.bool true)], args := [d1, d2, d3] }
  | _ => none }
def fnLessStrictWeakOrderRow : OpenClaim := { program := "yoegbw", sum := "07e44a3be001ca98127b7d42f0fa34a70dc8abf2f3c8c7523c774d7b54fdfa04", func := "github.com/d5/tengo/v2/zzlaws_parser_b28.FnLessStrictWeakOrder", spec := "fnLessStrictWeakOrder", apart := false }
def FnLessStrictWeakOrderSaid : Prop := fnLessStrictWeakOrderRow.holds Egbg.pinned (OpenSpec.ofChange fnLessStrictWeakOrderSpec)

/-- ITS FALSE NEIGHBOUR: 'it returns false'. Refute it at one input. -/
def fnLessStrictWeakOrderWrong : ChangeSpec := { name := "fnLessStrictWeakOrder", fn := fun _ => fun
  | [d1, d2, d3] => { results := [.lit (.bool false)], args := [d1, d2, d3] }
  | _ => none }
def FnLessStrictWeakOrderWrongFalsely : Prop := fnLessStrictWeakOrderRow.holds Egbg.pinned (OpenSpec.ofChange fnLessStrictWeakOrderWrong)

/-- 'zzlaws_parser_b28.FnSortYieldsModelOrder': WHATEVER THE INPUT: true; the input reads as it did. -/
def fnSortYieldsModelOrderSpec : ChangeSpec := { name := "fnSortYieldsModelOrder", fn := fun _ => fun
  | [d] => { results := [.lit (.bool true)], args := [d] }
  | _ => none }
def fnSortYieldsModelOrderRow : OpenClaim := { program := "yoegbw", sum := "07e44a3be001ca98127b7d42f0fa34a70dc8abf2f3c8c7523c774d7b54fdfa04", func := "github.com/d5/tengo/v2/zzlaws_parser_b28.FnSortYieldsModelOrder", spec := "fnSortYieldsModelOrder", unfollowed := true, recurses := true, apart := false }
def FnSortYieldsModelOrderSaid : Prop := fnSortYieldsModelOrderRow.holds Egbg.pinned (OpenSpec.ofChange fnSortYieldsModelOrderSpec)

/-- ITS FALSE NEIGHBOUR: 'it returns false'. Refute it at one input. -/
def fnSortYieldsModelOrderWrong : ChangeSpec := { name := "fnSortYieldsModelOrder", fn := fun _ => fun
  | [d] => { results := [.lit (.bool false)], args := [d] }
  | _ => none }
def FnSortYieldsModelOrderWrongFalsely : Prop := fnSortYieldsModelOrderRow.holds Egbg.pinned (OpenSpec.ofChange fnSortYieldsModelOrderWrong)

/-- 'zzlaws_parser_b28.FnSortPermutesAndOrders': WHATEVER THE INPUT: true; the input reads as it did. -/
def fnSortPermutesAndOrdersSpec : ChangeSpec := { name := "fnSortPermutesAndOrders", fn := fun _ => fun
  | [d] => { results := [.lit (.bool true)], args := [d] }
  | _ => none }
def fnSortPermutesAndOrdersRow : OpenClaim := { program := "yoegbw", sum := "07e44a3be001ca98127b7d42f0fa34a70dc8abf2f3c8c7523c774d7b54fdfa04", func := "github.com/d5/tengo/v2/zzlaws_parser_b28.FnSortPermutesAndOrders", spec := "fnSortPermutesAndOrders", unfollowed := true, recurses := true, apart := false }
def FnSortPermutesAndOrdersSaid : Prop := fnSortPermutesAndOrdersRow.holds Egbg.pinned (OpenSpec.ofChange fnSortPermutesAndOrdersSpec)

/-- ITS FALSE NEIGHBOUR: 'it returns false'. Refute it at one input. -/
def fnSortPermutesAndOrdersWrong : ChangeSpec := { name := "fnSortPermutesAndOrders", fn := fun _ => fun
  | [d] => { results := [.lit (.bool false)], args := [d] }
  | _ => none }
def FnSortPermutesAndOrdersWrongFalsely : Prop := fnSortPermutesAndOrdersRow.holds Egbg.pinned (OpenSpec.ofChange fnSortPermutesAndOrdersWrong)

end Rows
end Go.Proofs.Yoegbw
