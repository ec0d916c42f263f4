/-
  THE WALK OF zzBuildTagged (17).
-/
import Derived.Test.YoegbwWalkB
import Derived.Test.YoegbwSortW
import Derived.Deep.OwnRows
namespace Go.Proofs.Yoegbw
open Go.RowKit

theorem Egbg.info25 : (Egbg.prog.info? 25).map (fun i => (i.zero, i.size, i.bytes)) = some (some (.pointer none), 1, 8) := by kernel_rfl

/-- The record z, its Offset set to k. -/
def tag (z : Zk) (k : Nat) : Zk := ⟨z.fn, k, z.line, z.col, z.msg⟩

/-- The list as far as it is built: the first k of the n cells point to the blocks E 0 .., which hold r 0 ..; the others are nil. -/
structure Building (w : World) (L n k : Nat) (E : Nat → Nat) (r : Nat → Zk) : Prop where
  row : w.rowIs L 25 n (fun i => if i < k then .pointer (some ⟨E i, 0, none⟩) else .pointer none)
  holds : ∀ i, i < k → ZAt w (E i) 0 (r i)
  apart : ∀ i, i < k → L < E i

theorem Building.step {wr W' : World} {L n k : Nat} {E : Nat → Nat} {r : Nat → Zk} (hB : Building wr L n k E r)
    (hrow : W'.rowIs L 25 n (fun i => if i = k then .pointer (some ⟨E k, 0, none⟩) else if i < k then .pointer (some ⟨E i, 0, none⟩) else .pointer none))
    (hkept : ∀ b o, b < wr.heap.size → b ≠ L → W'.cell? ⟨b, o, none⟩ = wr.cell? ⟨b, o, none⟩) (hz : ZAt W' (E k) 0 (r k)) (hE : L < E k) : Building W' L n (k + 1) E r where
  row := hrow.congr fun i _ => by
    by_cases h1 : i = k
    · subst h1; rw [if_pos rfl, if_pos (by omega)]
    · rw [if_neg h1]
      by_cases h2 : i < k
      · rw [if_pos h2, if_pos (by omega)]
      · rw [if_neg h2, if_neg (by omega)]
  holds := fun i hi => by
    by_cases h1 : i = k
    · subst h1; exact hz
    · have := hB.holds i (by omega)
      exact this.of_cells fun o => hkept _ _ this.lt (by have := hB.apart i (by omega); omega)
  apart := fun i hi => by
    by_cases h1 : i = k
    · subst h1; exact hE
    · exact hB.apart i (by omega)

theorem Building.errList {w : World} {L n k : Nat} {E : Nat → Nat} {r : Nat → Zk} (h : Building w L n k E r) (hk : k = n) : ErrList w L n E r := by
  subst hk
  exact ⟨fun i hi => by rw [h.row.cell hi, if_pos hi], fun i _ => h.row.frozen i, h.holds, fun i hi => by have := h.apart i hi; omega, h.row.lt⟩

/-- Behind a store into block L and a new block every other old block reads as it did. -/
theorem kept_store_alloc (w : World) (L k : Nat) (v : Value) (o : Obj) (b j : Nat) (hb : b < w.heap.size) (hL : b ≠ L) : ((w.setCell ⟨L, k, none⟩ v).alloc o).drew.cell? ⟨b, j, none⟩ = w.cell? ⟨b, j, none⟩ := by
  show ((w.setCell ⟨L, k, none⟩ v).alloc o).cell? ⟨b, j, none⟩ = w.cell? ⟨b, j, none⟩
  rw [World.cell?_alloc_lt _ _ _ (by simpa using hb)]
  exact World.cell?_setCell_far _ _ _ _ (fun e => hL e.symm)

theorem zat_new (w : World) (x : Zk) (t : TypeId) (N : Nat) (hN : N = w.heap.size) : ZAt (w.alloc (.cells (zcells x) t)).drew N 0 x := by
  subst hN
  unfold ZAt zcells
  go_simp

set_option maxHeartbeats 1600000 in
theorem buildTagged_any (a : Option Addr) (n cap : Nat) (z : Nat → Zk) (w : World) (hn : n ≤ 4096) (hx : XsAt w a n z) :
    Calls Egbg.prog 17 #[.slice a n cap] w fun e w' => e = .returned (.slice (some ⟨w.heap.size, 0, none⟩) n n) ∧ Below w.heap.size w w' ∧ ErrList w' w.heap.size n (fun i => w.heap.size + 1 + i) (fun i => tag (z i) i) := by
  have hmk := run_make_row' (P := Egbg.prog) 28 25 (.pointer none) 8 Egbg.underlying28 Egbg.info25 rfl .i64 .i64 n (by omega) (by omega)
  go_enter Egbg.func17, Egbg.ntmps17
  go_wp2_with fail
  clear hmk
  go_loopw [4] (fun vi wr => ∃ k : Nat, vi = .int .i64 k ∧ k ≤ n ∧ Below w.heap.size w wr ∧ wr.heap.size = w.heap.size + 1 + k ∧ Building wr w.heap.size n k (fun i => w.heap.size + 1 + i) (fun i => tag (z i) i)) (fun vi _ => n - (intOf vi).toNat)
  case atStart =>
    refine ⟨0, rfl, by omega, (Below.refl _ _).alloc (Nat.le_refl _) _, by simp, ⟨?_, fun i hi => by omega, fun i hi => by omega⟩⟩
    exact (World.rowIs_made w (.pointer none) n 25).congr (fun i _ => by simp)
  case round =>
    obtain ⟨k, rfl, hk, hbel, hsz, hB⟩ := hrel
    by_cases hlt : k < n
    · obtain ⟨b, off, rfl, hz⟩ := hx k hlt
      have hne : w.heap.size ≠ b := by have := hz.lt; omega
      obtain ⟨c0, c1, c2, c3, c4⟩ := hz.below hbel hz.lt
      clear hz
      have hL : w.heap.size < wr.heap.size := by omega
      have hc : wr.cell? ⟨w.heap.size, k, none⟩ = some (.pointer none) := by rw [hB.row.cell hlt, if_neg (by omega)]
      have hf : wr.frozen? ⟨w.heap.size, k, none⟩ = false := hB.row.frozen k
      have HS : Hid (wr.heap.size = w.heap.size + 1 + k) := hsz
      clear hsz
      go_wp2_with fail
      go_region_held3 (fun w' => w'.cell? ⟨b, off + k * 5, none⟩ = some (.string (z k).fn) ∧ w'.cell? ⟨b, off + k * 5 + 2, none⟩ = some (.int .i64 (z k).line) ∧ w'.cell? ⟨b, off + k * 5 + 3, none⟩ = some (.int .i64 (z k).col) ∧ w'.cell? ⟨b, off + k * 5 + 4, none⟩ = some (.string (z k).msg))
        (go_keep) (fail)
      go_wp2_with fail
      go_roundw
      case rel =>
        have hE : w.heap.size + 1 + k = wr.heap.size := HS.out.symm
        refine ⟨k + 1, by go_num, by omega, ?_, ?_, hB.step ?_ (fun b o hb hbL => kept_store_alloc _ _ _ _ _ _ _ hb hbL) ?_ (by omega)⟩
        · exact (((hbel.setCell (by simp) _).alloc (by simp; omega) _)).drew
        · simp; omega
        · rw [hE]
          exact ((hB.row.set k _).alloc _).drew
        · rw [hE]
          exact zat_new (wr.setCell ⟨w.heap.size, k, none⟩ (.pointer (some ⟨wr.heap.size, 0, none⟩))) (tag (z k) k) 42 _ (by simp)
      case measure => simp [intOf]; omega
    · go_wp2_with fail
      go_ret
      exact ⟨rfl, hbel, hB.errList (by omega)⟩

end Go.Proofs.Yoegbw
