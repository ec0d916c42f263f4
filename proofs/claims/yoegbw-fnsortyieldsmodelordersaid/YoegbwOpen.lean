/-
  HOW A RECORD ('ZErr': type 23: five cells, two of them strings) IS READ: the value's form.
-/
import Derived.Test.YoegbwWalkA
import Derived.ProofKit
namespace Go.Proofs.Yoegbw
open Go.ChangeShapes Go.WideShapes Go.ChangeAt Go.RowKit

theorem Egbg.own : ownKnob Egbg.prog.godebug = none := by kernel_rfl
theorem Egbg.laidOut : laidOutB Egbg.prog = true := by kernel_rfl
theorem Egbg.cells23 : Egbg.prog.cellsOf 23 = 5 := by kernel_rfl
theorem Egbg.cells9 : Egbg.prog.cellsOf 9 = 1 := by kernel_rfl
theorem Egbg.cells3 : Egbg.prog.cellsOf 3 = 1 := by kernel_rfl

theorem list5 {α : Type} {cs : List α} (h : cs.length = 5) : ∃ c0 c1 c2 c3 c4, cs = [c0, c1, c2, c3, c4] := by
  match cs, h with
  | [c0, c1, c2, c3, c4], _ => exact ⟨c0, c1, c2, c3, c4, rfl⟩

section
variable {H : Type} {enc : TypeId × Value → H} {w : World} {base : Nat} {spare : Nat → Bool} {held : Bool}

theorem trod_struct5 {P : Program} {t : TypeId} {f0 f1 f2 f3 f4 : Field} {fuel : Nat} {cs : List Value} {x : DataW H × List MemPlace} (ht : P.underlying t = some (.struct #[f0, f1, f2, f3, f4])) (h : DataW.trod enc P w base spare held fuel t cs = some x) :
    ∃ y0 y1 y2 y3 y4 n, x = (.agg [y0.1, y1.1, y2.1, y3.1, y4.1], y0.2 ++ (y1.2 ++ (y2.2 ++ (y3.2 ++ y4.2)))) ∧ cs.length = P.cellsOf t ∧ DataW.trod enc P w base spare held n f0.type ((cs.drop f0.offset).take (P.cellsOf f0.type)) = some y0 ∧
      DataW.trod enc P w base spare held n f1.type ((cs.drop f1.offset).take (P.cellsOf f1.type)) = some y1 ∧ DataW.trod enc P w base spare held n f2.type ((cs.drop f2.offset).take (P.cellsOf f2.type)) = some y2 ∧
      DataW.trod enc P w base spare held n f3.type ((cs.drop f3.offset).take (P.cellsOf f3.type)) = some y3 ∧ DataW.trod enc P w base spare held n f4.type ((cs.drop f4.offset).take (P.cellsOf f4.type)) = some y4 := by
  obtain ⟨xs, n, _, rfl, hl, hlen, hf⟩ := DataW.trod_struct ht h
  obtain ⟨y0, y1, y2, y3, y4, rfl⟩ := list5 hlen
  exact ⟨y0, y1, y2, y3, y4, n, by simp, hl, by simpa using hf 0 f0 rfl, by simpa using hf 1 f1 rfl, by simpa using hf 2 f2 rfl, by simpa using hf 3 f3 rfl, by simpa using hf 4 f4 rfl⟩

theorem trod23 {fuel : Nat} {cs : List Value} {x : DataW H × List MemPlace} (h : DataW.trod enc Egbg.prog w base spare held fuel 23 cs = some x) :
    ∃ z : Zk, cs = [.string z.fn, .int .i64 z.off, .int .i64 z.line, .int .i64 z.col, .string z.msg] ∧ z.fn.size ≤ maxLen ∧ z.msg.size ≤ maxLen ∧ x.2 = [] := by
  obtain ⟨y0, y1, y2, y3, y4, n, rfl, hl, t0, t1, t2, t3, t4⟩ := trod_struct5 Egbg.underlying23 h
  rw [Egbg.cells23] at hl
  obtain ⟨c0, c1, c2, c3, c4, rfl⟩ := list5 hl
  simp only [Egbg.cells9, Egbg.cells3, List.drop, List.take] at t0 t1 t2 t3 t4
  obtain ⟨s0, e0, rfl, g0⟩ := DataW.trod_string Egbg.underlying9 t0
  obtain ⟨s1, e1, rfl, g1⟩ := DataW.trod_int Egbg.underlying3 t1
  obtain ⟨s2, e2, rfl, g2⟩ := DataW.trod_int Egbg.underlying3 t2
  obtain ⟨s3, e3, rfl, g3⟩ := DataW.trod_int Egbg.underlying3 t3
  obtain ⟨s4, e4, rfl, g4⟩ := DataW.trod_string Egbg.underlying9 t4
  simp only [List.cons.injEq, and_true] at e0 e1 e2 e3 e4
  subst e0 e1 e2 e3 e4
  exact ⟨⟨s0, s1, s2, s3, s4⟩, rfl, g0, g4, by simp⟩

theorem open23 {r : Reach} {b0 : Nat} {v : Value} {d : DataW H} {p : List MemPlace} (hv : Value.okWide Egbg.prog w r b0 23 v) (h : DataW.Trod enc Egbg.prog w base spare held 23 v d p) :
    ∃ z : Zk, v = zval z ∧ z.fn.size ≤ maxLen ∧ z.msg.size ≤ maxLen ∧ p = [] := by
  obtain ⟨cs, rfl, hsz⟩ := okWide_struct Egbg.underlying23 hv
  obtain ⟨fuel, hf⟩ := h
  obtain ⟨z, e, h1, h2, h3⟩ := trod23 hf
  refine ⟨z, ?_, h1, h2, h3⟩
  simp only [Value.cells] at e
  unfold zval
  congr 1
  exact Array.ext' e
end

end Go.Proofs.Yoegbw
