/-
  HOW A SLICE OF RECORDS (type 32) IS READ.
-/
import Derived.Test.YoegbwOpen
import Derived.Test.YoegbwWalkB
import Derived.Deep.Slices
namespace Go.Proofs.Yoegbw
open Go.ChangeShapes Go.WideShapes Go.ChangeAt Go.RowKit

section
variable {H : Type} {enc : TypeId × Value → H} {w : World} {base : Nat} {spare : Nat → Bool} {held : Bool}

theorem spot_of_cells {a : Addr} {z : Zk} (h : w.cells? base (a.add (0 * 5)) 5 = some [.string z.fn, .int .i64 z.off, .int .i64 z.line, .int .i64 z.col, .string z.msg]) : a.spot = none := by
  obtain ⟨_, _, hc⟩ := World.cells?_some h
  have h0 : w.cell? ((a.add (0 * 5)).add 0) = some (.string z.fn) := hc 0 (by omega)
  have h1 := World.cell?_spot h0
  simpa [Addr.add] using h1

theorem zat_of_cells {a : Addr} {k : Nat} {z : Zk} (hs : a.spot = none) (h : w.cells? base (a.add k) 5 = some [.string z.fn, .int .i64 z.off, .int .i64 z.line, .int .i64 z.col, .string z.msg]) :
    a = ⟨a.block, a.off, none⟩ ∧ ZAt w a.block (a.off + k) z := by
  obtain ⟨_, _, hc⟩ := World.cells?_some h
  obtain ⟨b, off, sp⟩ := a
  dsimp only at hs
  subst hs
  have e : ∀ i, ((⟨b, off, none⟩ : Addr).add k).add i = ⟨b, off + k + i, none⟩ := fun i => by rw [add_plain, add_plain]
  have g0 : w.cell? ⟨b, off + k + 0, none⟩ = some (.string z.fn) := by rw [← e]; exact hc 0 (by omega)
  have g1 : w.cell? ⟨b, off + k + 1, none⟩ = some (.int .i64 z.off) := by rw [← e]; exact hc 1 (by omega)
  have g2 : w.cell? ⟨b, off + k + 2, none⟩ = some (.int .i64 z.line) := by rw [← e]; exact hc 2 (by omega)
  have g3 : w.cell? ⟨b, off + k + 3, none⟩ = some (.int .i64 z.col) := by rw [← e]; exact hc 3 (by omega)
  have g4 : w.cell? ⟨b, off + k + 4, none⟩ = some (.string z.msg) := by rw [← e]; exact hc 4 (by omega)
  exact ⟨rfl, g0, g1, g2, g3, g4⟩

theorem open32 {r : Reach} {b0 : Nat} {v : Value} {d : DataW H} {p : List MemPlace} (hv : Value.okWide Egbg.prog w r b0 32 v) (h : DataW.Trod enc Egbg.prog w base spare held 32 v d p) :
    ∃ (a : Option Addr) (n cap : Nat) (z : Nat → Zk), v = .slice a n cap ∧ n ≤ maxLen ∧ XsAt w a n z ∧ Sizes n z := by
  obtain ⟨a0, len, cap, rfl⟩ := okWide_slice Egbg.underlying32 hv
  obtain ⟨fuel, hf⟩ := h
  rcases Go.Deep.open_slice Egbg.underlying32 hf with ⟨hcs, hx⟩ | ⟨a, len', cap', m, n, D, Pl, hcs, _, hl, hm, hmm, hx, hel⟩
  · simp [Value.cells] at hcs
    obtain ⟨rfl, rfl, rfl⟩ := hcs
    exact ⟨none, 0, 0, fun _ => Zk.nil, rfl, Nat.zero_le _, fun i hi => by omega, fun i hi => by omega⟩
  · simp [Value.cells] at hcs
    obtain ⟨rfl, rfl, rfl⟩ := hcs
    have hml : len ≤ m := by rw [hmm]; split <;> omega
    obtain ⟨z, hz⟩ := @Go.Deep.choose_lt Zk ⟨Zk.nil⟩ len (fun i z => (a = ⟨a.block, a.off, none⟩ ∧ ZAt w a.block (a.off + i * 5) z) ∧ z.fn.size ≤ maxLen ∧ z.msg.size ≤ maxLen) (fun i hi => by
      obtain ⟨cs', h1, h2⟩ := hel i (by omega)
      rw [Egbg.cells23] at h1
      obtain ⟨z, rfl, g0, g4, _⟩ := trod23 h2
      obtain ⟨cs0, k1, k2⟩ := hel 0 (by omega)
      rw [Egbg.cells23] at k1
      obtain ⟨z0, rfl, _⟩ := trod23 k2
      exact ⟨z, zat_of_cells (spot_of_cells k1) h1, g0, g4⟩)
    refine ⟨some a, len, cap, z, rfl, by omega, fun i hi => ⟨a.block, a.off, ?_, (hz i hi).1.2⟩, fun i hi => (hz i hi).2⟩
    rw [← (hz i hi).1.1]
end

end Go.Proofs.Yoegbw
