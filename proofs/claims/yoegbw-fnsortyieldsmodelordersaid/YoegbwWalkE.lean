/-
  THE WALK OF zzBuild (12).
-/
import Derived.Test.YoegbwWalkC
namespace Go.Proofs.Yoegbw
open Go.RowKit

theorem kept_store_alloc2 (w : World) (L k : Nat) (v : Value) (o o' : Obj) (b j : Nat) (hb : b < w.heap.size) (hL : b ≠ L) : (((w.setCell ⟨L, k, none⟩ v).alloc o).alloc o').cell? ⟨b, j, none⟩ = w.cell? ⟨b, j, none⟩ := by
  rw [World.cell?_alloc_lt _ _ _ (by simp; omega), World.cell?_alloc_lt _ _ _ (by simpa using hb)]
  exact World.cell?_setCell_far _ _ _ _ (fun e => hL e.symm)

set_option maxHeartbeats 1600000 in
theorem build_any (a : Option Addr) (n cap : Nat) (z : Nat → Zk) (w : World) (hn : n ≤ 4096) (hx : XsAt w a n z) :
    Calls Egbg.prog 12 #[.slice a n cap] w fun e w' => e = .returned (.slice (some ⟨w.heap.size, 0, none⟩) n n) ∧ Below w.heap.size w w' ∧ ErrList w' w.heap.size n (fun i => w.heap.size + 1 + 2 * i + 1) z := by
  have hmk := run_make_row' (P := Egbg.prog) 28 25 (.pointer none) 8 Egbg.underlying28 Egbg.info25 rfl .i64 .i64 n (by omega) (by omega)
  go_enter Egbg.func12, Egbg.ntmps12
  go_wp2_with fail
  clear hmk
  go_loopw [4] (fun vi wr => ∃ k : Nat, vi = .int .i64 k ∧ k ≤ n ∧ Below w.heap.size w wr ∧ wr.heap.size = w.heap.size + 1 + 2 * k ∧ Building wr w.heap.size n k (fun i => w.heap.size + 1 + 2 * i + 1) z) (fun vi _ => n - (intOf vi).toNat)
  case atStart =>
    refine ⟨0, rfl, by omega, (Below.refl _ _).alloc (Nat.le_refl _) _, by simp, ⟨?_, fun i hi => by omega, fun i hi => by omega⟩⟩
    exact (World.rowIs_made w (.pointer none) n 25).congr (fun i _ => by simp)
  case round =>
    obtain ⟨k, rfl, hk, hbel, hsz, hB⟩ := hrel
    by_cases hlt : k < n
    · obtain ⟨b, off, rfl, hz⟩ := hx k hlt
      have hne : w.heap.size ≠ b := by have := hz.lt; omega
      obtain ⟨c0, c1, c2, c3, c4⟩ := hz.below hbel hz.lt
      clear hz
      have hL : w.heap.size < wr.heap.size := by omega
      have hc : wr.cell? ⟨w.heap.size, k, none⟩ = some (.pointer none) := by rw [hB.row.cell hlt, if_neg (by omega)]
      have hf : wr.frozen? ⟨w.heap.size, k, none⟩ = false := hB.row.frozen k
      have HS : Hid (wr.heap.size = w.heap.size + 1 + 2 * k) := hsz
      clear hsz
      have h7 := fun W => zzOne_any (z k) W
      unfold zval zcells at h7
      go_wp2_with fail
      refine (h7 _).mono ?_
      rintro e w' ⟨rfl, rfl⟩
      go_wp2_with fail
      go_roundw
      case rel =>
        have hE : w.heap.size + 1 + 2 * k + 1 = wr.heap.size + 1 := by rw [HS.out]
        have hS := HS.out
        refine ⟨k + 1, by go_num, by omega, ?_, ?_, hB.step ?_ (fun b o hb hbL => kept_store_alloc2 _ _ _ _ _ _ _ _ hb hbL) ?_ (by omega)⟩
        · exact ((hbel.setCell (by simp) _).alloc (by simp; omega) _).alloc (by simp; omega) _
        · simp; omega
        · rw [hE]
          exact ((hB.row.set k _).alloc _).alloc _
        · rw [hE]
          exact zat_new ((wr.setCell ⟨w.heap.size, k, none⟩ (.pointer (some ⟨wr.heap.size + 1, 0, none⟩))).alloc _) (z k) 42 _ (by simp)
      case measure => simp [intOf]; omega
    · go_wp2_with fail
      go_ret
      exact ⟨rfl, hbel, hB.errList (by omega)⟩

end Go.Proofs.Yoegbw
