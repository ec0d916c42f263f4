/-
  THE WALKS OF THE SMALL FUNCTIONS: zzOne, zzSameKey, (ErrorList).Less, zzBytes_FnLessStrictWeakOrder.
-/
import Derived.Test.YoegbwRows
import Derived.Test.YoegbwPlain
import Derived.WalkKit
import Derived.WalkSpells
import Derived.WalkLawsBesides
import Derived.Deep.QuietTactic
import Derived.BigQuiet
namespace Go.Proofs.Yoegbw
open Go.RowKit

/-- A record as a value. -/
def zval (z : Zk) : Value := .agg #[.string z.fn, .int .i64 z.off, .int .i64 z.line, .int .i64 z.col, .string z.msg]
/-- A record's five cells. -/
def zcells (z : Zk) : Array Value := #[.string z.fn, .int .i64 z.off, .int .i64 z.line, .int .i64 z.col, .string z.msg]

/-- Five cells from offset o of block b on hold the record z. -/
def ZAt (W : World) (b o : Nat) (z : Zk) : Prop :=
  W.cell? ⟨b, o, none⟩ = some (.string z.fn) ∧ W.cell? ⟨b, o + 1, none⟩ = some (.int .i64 z.off) ∧ W.cell? ⟨b, o + 2, none⟩ = some (.int .i64 z.line) ∧ W.cell? ⟨b, o + 3, none⟩ = some (.int .i64 z.col) ∧ W.cell? ⟨b, o + 4, none⟩ = some (.string z.msg)

theorem ZAt.of_cells {W W' : World} {b o : Nat} {z : Zk} (h : ZAt W b o z) (hc : ∀ k, W'.cell? ⟨b, k, none⟩ = W.cell? ⟨b, k, none⟩) : ZAt W' b o z := by
  obtain ⟨h0, h1, h2, h3, h4⟩ := h
  exact ⟨(hc _).trans h0, (hc _).trans h1, (hc _).trans h2, (hc _).trans h3, (hc _).trans h4⟩
theorem ZAt.lt {W : World} {b o : Nat} {z : Zk} (h : ZAt W b o z) : b < W.heap.size := World.block_lt_of_cell? W _ h.1
theorem ZAt.below {B : Nat} {W W' : World} {b o : Nat} {z : Zk} (h : ZAt W b o z) (hB : Below B W W') (hb : b < B) : ZAt W' b o z :=
  h.of_cells fun _ => hB.cell (p := ⟨b, _, none⟩) hb

set_option maxHeartbeats 400000 in
theorem zzOne_any (z : Zk) (w : World) :
    Calls Egbg.prog 7 #[zval z] w fun e w' => e = .returned (.pointer (some ⟨w.heap.size + 1, 0, none⟩)) ∧ w' = (w.alloc (.cells (zcells z) 23)).alloc (.cells (zcells z) 42) := by
  obtain ⟨f, o, l, c, m⟩ := z
  unfold zval zcells
  go_enter Egbg.func7, Egbg.ntmps7
  go_wp2
  go_ret
  exact ⟨rfl, rfl⟩

theorem ret_bool {a b : Bool} (h : a = b) : Ending.returned (.bool a) = .returned (.bool b) := by rw [h]

set_option maxHeartbeats 400000 in
theorem sameKey_any (x y : Zk) (w : World) :
    Calls Egbg.prog 9 #[zval x, zval y] w fun e w' => e = .returned (.bool (sameZ x y)) ∧ w' = (w.alloc (.cells (zcells x) 23)).alloc (.cells (zcells y) 23) := by
  obtain ⟨f, o, l, c, m⟩ := x
  obtain ⟨f', o', l', c', m'⟩ := y
  unfold zval zcells sameZ
  go_enter Egbg.func9, Egbg.ntmps9
  go_wp2
  all_goals go_ret
  · have h1 : f.toList = f'.toList := by assumption
    have h2 : l = l' := by assumption
    have h3 : c = c' := by assumption
    exact ⟨ret_bool (by simp [h1, h2, h3]), by rw [h2, h3]⟩
  · have h3 : ¬ c = c' := by assumption
    have h2 : l = l' := by assumption
    exact ⟨ret_bool (by simp [h3]), by rw [h2]⟩
  · have h3 : ¬ l = l' := by assumption
    exact ⟨ret_bool (by simp [h3]), rfl⟩
  · have h3 : ¬ f.toList = f'.toList := by assumption
    exact ⟨ret_bool (by simp [h3]), rfl⟩

set_option maxHeartbeats 400000 in
theorem less_any (blk off cap size : Nat) (W : World) (i j : Nat) (hi : i < size) (hj : j < size) (_hsz : size < 4611686018427387904) (bi bj : Nat) (x y : Zk)
    (ci : W.cell? ⟨blk, off + i, none⟩ = some (.pointer (some ⟨bi, 0, none⟩))) (cj : W.cell? ⟨blk, off + j, none⟩ = some (.pointer (some ⟨bj, 0, none⟩)))
    (hx : ZAt W bi 0 x) (hy : ZAt W bj 0 y) :
    Calls Egbg.prog 8 #[.slice (some ⟨blk, off, none⟩) size cap, .int .i64 i, .int .i64 j] W fun e w' => e = .returned (.bool (lessZ x y)) ∧ ∃ q, w' = W.drewN q := by
  obtain ⟨f, o, l, c, m⟩ := x
  obtain ⟨f', o', l', c', m'⟩ := y
  obtain ⟨i0, i1, i2, i3, i4⟩ := hx
  obtain ⟨j0, j1, j2, j3, j4⟩ := hy
  dsimp only at i0 i1 i2 i3 i4 j0 j1 j2 j3 j4
  simp only [Nat.zero_add] at i0 i1 i2 i3 i4 j0 j1 j2 j3 j4
  by_cases hf : f.toList = f'.toList
  · by_cases hl : l = l'
    · by_cases hc : c = c'
      · have HH : Hid (lessZ ⟨f, o, l, c, m⟩ ⟨f', o', l', c', m'⟩ = Op.bytesLess m.toList m'.toList) := by show _ = _; unfold lessZ; simp [hf, hl, hc]
        subst hl hc
        have hb : (f.toList == f'.toList) = true := by simpa using hf
        clear hf
        go_enter Egbg.func8, Egbg.ntmps8
        go_wp2
        go_quiet (fail)
        go_wp2
        go_quiet (fail)
        go_wp2
        go_quiet (fail)
        go_wp2
        go_quiet (fail)
        go_wp2
        go_ret
        exact ⟨by rw [HH.out]; rfl, by simp only [World.drewN_drewN]; exact ⟨_, rfl⟩⟩
      · have hb : (f.toList == f'.toList) = true := by simpa using hf
        have hb3 : (c == c') = false := by simpa using hc
        have HH : Hid (lessZ ⟨f, o, l, c, m⟩ ⟨f', o', l', c', m'⟩ = decide (c < c')) := by show _ = _; unfold lessZ; simp [hf, hl, hc]
        subst hl
        clear hf
        go_enter Egbg.func8, Egbg.ntmps8
        go_wp2
        go_quiet (fail)
        go_wp2
        go_quiet (fail)
        go_wp2
        go_quiet (fail)
        go_wp2
        go_quiet (fail)
        go_wp2
        go_ret
        exact ⟨by rw [HH.out]; rfl, by simp only [World.drewN_drewN]; exact ⟨_, rfl⟩⟩
    · have hb : (f.toList == f'.toList) = true := by simpa using hf
      have hb2 : (l == l') = false := by simpa using hl
      have HH : Hid (lessZ ⟨f, o, l, c, m⟩ ⟨f', o', l', c', m'⟩ = decide (l < l')) := by show _ = _; unfold lessZ; simp [hf, hl]
      clear hf
      go_enter Egbg.func8, Egbg.ntmps8
      go_wp2
      go_quiet (fail)
      go_wp2
      go_quiet (fail)
      go_wp2
      go_quiet (fail)
      go_wp2
      go_ret
      exact ⟨by rw [HH.out]; rfl, by simp only [World.drewN_drewN]; exact ⟨_, rfl⟩⟩
  · have hb : (f.toList == f'.toList) = false := by simpa using hf
    have HH : Hid (lessZ ⟨f, o, l, c, m⟩ ⟨f', o', l', c', m'⟩ = Op.bytesLess f.toList f'.toList) := by show _ = _; unfold lessZ; simp [hf]
    go_enter Egbg.func8, Egbg.ntmps8
    go_wp2
    go_quiet (fail)
    go_wp2
    go_quiet (fail)
    go_wp2
    go_ret
    exact ⟨by rw [HH.out]; rfl, by simp only [World.drewN_drewN]; exact ⟨_, rfl⟩⟩

set_option maxHeartbeats 400000 in
theorem bytes6_any (x y z : Zk) (w : World) (x0 : x.fn.size ≤ maxLen) (x4 : x.msg.size ≤ maxLen) (y0 : y.fn.size ≤ maxLen) (y4 : y.msg.size ≤ maxLen) (z0 : z.fn.size ≤ maxLen) (z4 : z.msg.size ≤ maxLen) :
    Calls Egbg.prog 6 #[zval x, zval y, zval z] w fun e w' => (∃ b, e = .returned (.bool b)) ∧ w' = ((w.alloc (.cells (zcells x) 23)).alloc (.cells (zcells y) 23)).alloc (.cells (zcells z) 23) := by
  obtain ⟨f, o, l, c, m⟩ := x
  obtain ⟨f', o', l', c', m'⟩ := y
  obtain ⟨f'', o'', l'', c'', m''⟩ := z
  unfold maxLen at x0 x4 y0 y4 z0 z4
  dsimp only at x0 x4 y0 y4 z0 z4
  unfold zval zcells
  go_enter Egbg.func6, Egbg.ntmps6
  go_wp2
  all_goals go_ret
  all_goals exact ⟨⟨_, rfl⟩, rfl⟩

end Go.Proofs.Yoegbw
