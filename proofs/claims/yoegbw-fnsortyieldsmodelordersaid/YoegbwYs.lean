/-
  THE SLICE ys: records of five cells each in a block of the call's own.
-/
import Derived.Test.YoegbwWalkB
import Derived.Test.YoegbwPlainD
import Derived.Deep.OwnRows
namespace Go.Proofs.Yoegbw
open Go.RowKit

/-- Cell number c of a record. -/
def zc (z : Zk) : Nat → Value
  | 0 => .string z.fn
  | 1 => .int .i64 z.off
  | 2 => .int .i64 z.line
  | 3 => .int .i64 z.col
  | _ => .string z.msg

/-- Block Y is a row of n records, the i-th y i; none of its cells is frozen. -/
def YRow (w : World) (Y n : Nat) (y : Nat → Zk) : Prop := w.rowIs Y 23 (n * 5) (fun o => zc (y (o / 5)) (o % 5))

theorem YRow.zat {w : World} {Y n : Nat} {y : Nat → Zk} (h : YRow w Y n y) {i : Nat} (hi : i < n) : ZAt w Y (i * 5) (y i) := by
  have c : ∀ c, c < 5 → w.cell? ⟨Y, i * 5 + c, none⟩ = some (zc (y i) c) := fun c hc => by
    have h1 := h.cell (i := i * 5 + c) (by omega)
    rw [h1, show (i * 5 + c) / 5 = i by omega, show (i * 5 + c) % 5 = c by omega]
  exact ⟨c 0 (by omega), c 1 (by omega), c 2 (by omega), c 3 (by omega), c 4 (by omega)⟩

theorem Egbg.info23 : (Egbg.prog.info? 23).map (fun i => (i.zero, i.size, i.bytes)) = some (some (.agg #[.string ByteArray.empty, .int .i64 0, .int .i64 0, .int .i64 0, .string ByteArray.empty]), 5, 56) := by kernel_rfl

theorem make_ys (n : Nat) (hn : n ≤ 4096) (w : World) :
    (Instr.makeSlice 32 (.int .i64 (n : Int)) (.int .i64 (n : Int))).run Egbg.prog w = .ok (.slice (some ⟨w.heap.size, 0, none⟩) n n) (w.alloc (.cells (madeCells (zcells Zk.nil) (n * 5)) 23)) := by
  obtain ⟨i, hi, hzz⟩ := Option.map_eq_some_iff.1 Egbg.info23
  simp only [Prod.mk.injEq] at hzz
  obtain ⟨hz, hs, hb⟩ := hzz
  have hr := run_make (P := Egbg.prog) w 32 23 i _ Egbg.underlying32 hi hz .i64 .i64 n n (by omega) (Int.le_refl _) (by rw [hb]; omega) (by omega)
  rw [hs] at hr
  simp only [Int.toNat_natCast] at hr
  exact hr

theorem YRow.made (w : World) (n : Nat) : YRow (w.alloc (.cells (madeCells (zcells Zk.nil) (n * 5)) 23)) w.heap.size n (fun _ => Zk.nil) := by
  have h := World.rowIs_alloc w (madeCells (zcells Zk.nil) (n * 5)) 23 (fun o => zc Zk.nil (o % 5)) (fun i hi => by
    have hi' : i < n * 5 := by rwa [size_madeCells] at hi
    have h5 : i % 5 < 5 := Nat.mod_lt _ (by omega)
    simp only [madeCells, Array.getElem?_map]
    rw [Array.getElem?_range, if_pos hi']
    show some ((zcells Zk.nil)[i % 5]!) = some (zc Zk.nil (i % 5))
    generalize i % 5 = c at *
    match c, h5 with
    | 0, _ => rfl
    | 1, _ => rfl
    | 2, _ => rfl
    | 3, _ => rfl
    | 4, _ => rfl)
  rw [size_madeCells] at h
  exact h

/-- The record x stored over five cells, as the walk spells it. -/
def putZ (w : World) (Y o : Nat) (x : Zk) : World :=
  ((((w.setCell ⟨Y, o, none⟩ (.string x.fn)).setCell ⟨Y, o + 1, none⟩ (.int .i64 x.off)).setCell ⟨Y, o + 2, none⟩ (.int .i64 x.line)).setCell ⟨Y, o + 3, none⟩ (.int .i64 x.col)).setCell ⟨Y, o + 4, none⟩ (.string x.msg)

theorem size_putZ (w : World) (Y o : Nat) (x : Zk) : (putZ w Y o x).heap.size = w.heap.size := by unfold putZ; simp

theorem heap_putZ (w : World) (Y o : Nat) (x : Zk) (b : Nat) (hb : b ≠ Y) : (putZ w Y o x).heap[b]? = w.heap[b]? := by
  unfold putZ
  rw [Below.heap_setCell _ _ _ _ hb, Below.heap_setCell _ _ _ _ hb, Below.heap_setCell _ _ _ _ hb, Below.heap_setCell _ _ _ _ hb, Below.heap_setCell _ _ _ _ hb]

theorem below_putZ {B : Nat} {a w : World} (h : Below B a w) {Y : Nat} (hY : B ≤ Y) (o : Nat) (x : Zk) : Below B a (putZ w Y o x) :=
  ((((h.setCell (p := ⟨Y, _, none⟩) hY _).setCell (p := ⟨Y, _, none⟩) hY _).setCell (p := ⟨Y, _, none⟩) hY _).setCell (p := ⟨Y, _, none⟩) hY _).setCell (p := ⟨Y, _, none⟩) hY _

theorem YRow.put {w : World} {Y n : Nat} {y : Nat → Zk} (h : YRow w Y n y) (i : Nat) (x : Zk) : YRow (putZ w Y (i * 5) x) Y n (fun j => if j = i then x else y j) := by
  unfold YRow putZ
  refine (((((World.rowIs.set h (i * 5) (.string x.fn)).set (i * 5 + 1) (.int .i64 x.off)).set (i * 5 + 2) (.int .i64 x.line)).set (i * 5 + 3) (.int .i64 x.col)).set (i * 5 + 4) (.string x.msg)).congr fun o _ => ?_
  by_cases e : o / 5 = i
  · have h5 : o % 5 < 5 := Nat.mod_lt _ (by omega)
    have ho : o = i * 5 + o % 5 := by omega
    simp only [e, if_true]
    generalize o % 5 = c at *
    subst ho
    match c, h5 with
    | 0, _ => simp [zc]
    | 1, _ => simp [zc]
    | 2, _ => simp [zc]
    | 3, _ => simp [zc]
    | 4, _ => simp [zc]
  · rw [if_neg (by omega), if_neg (by omega), if_neg (by omega), if_neg (by omega), if_neg (by omega)]
    simp only [e, if_false]

theorem YRow.congr {w : World} {Y n : Nat} {y y' : Nat → Zk} (h : YRow w Y n y) (e : ∀ i, i < n → y i = y' i) : YRow w Y n y' :=
  World.rowIs.congr h fun o ho => by rw [e (o / 5) (by omega)]

theorem YRow.alloc {w : World} {Y n : Nat} {y : Nat → Zk} (h : YRow w Y n y) (o : Obj) : YRow (w.alloc o) Y n y := World.rowIs.alloc h o
theorem YRow.lt {w : World} {Y n : Nat} {y : Nat → Zk} (h : YRow w Y n y) : Y < w.heap.size := World.rowIs.lt h

end Go.Proofs.Yoegbw
