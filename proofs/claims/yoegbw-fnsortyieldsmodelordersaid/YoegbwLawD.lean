/-
  THE WALK OF zzlaws_parser_b28.FnSortYieldsModelOrder (4).
-/
import Derived.Test.YoegbwLawB
import Derived.Test.YoegbwWalkD
import Derived.Test.YoegbwWalkE
import Derived.Test.YoegbwYs
namespace Go.Proofs.Yoegbw
open Go.RowKit

/-- One exchange of neighbours, as the walk spells it: the one at j0 + 1 kept aside in a new block, both stored over. -/
structure SwapStep (w w' : World) (Y n j0 : Nat) (y : Nat → Zk) : Prop where
  row : YRow w' Y n (swapF y (j0 + 1))
  size : w.heap.size < w'.heap.size
  kept : ∀ b, b < w.heap.size → b ≠ Y → w'.heap[b]? = w.heap[b]?
  none : Below 0 w w'

theorem SwapStep.below {w w' w0 : World} {Y n j0 B : Nat} {y : Nat → Zk} (h : SwapStep w w' Y n j0 y) (hb : Below B w0 w) (hB : B ≤ Y ∧ B ≤ w.heap.size) : Below B w0 w' :=
  hb.trans ⟨h.none.os, h.none.tape, h.none.output, Nat.le_of_lt h.size, fun k hk => h.kept k (by omega) (by omega)⟩

theorem swapStep {wc : World} {Y n : Nat} {y : Nat → Zk} (hrow : YRow wc Y n y) {o : Obj} (j0 : Nat) (A B : Zk) (hA : A = y j0) (hB : B = y (j0 + 1)) : SwapStep wc ((putZ (putZ wc Y ((j0 + 1) * 5) A) Y (j0 * 5) B).alloc o) Y n j0 y where
  row := YRow.alloc (((hrow.put (j0 + 1) A).put j0 B).congr fun i _ => by
    unfold swapF
    rw [Nat.add_sub_cancel]
    by_cases e1 : i = j0
    · subst e1; rw [if_pos rfl, if_neg (by omega), if_pos rfl, hB]
    · rw [if_neg e1]
      by_cases e2 : i = j0 + 1
      · rw [if_pos e2, if_pos e2, hA]
      · rw [if_neg e2, if_neg e2, if_neg e1]) o
  size := by simp [size_putZ]
  kept := fun b hb hY => by
    rw [Below.heap_alloc _ _ _ (by rw [size_putZ, size_putZ]; exact hb), heap_putZ _ _ _ _ _ hY, heap_putZ _ _ _ _ _ hY]
  none := (below_putZ (below_putZ (Below.refl 0 wc) (Nat.zero_le _) _ A) (Nat.zero_le _) _ B).alloc (Nat.zero_le _) o

set_option maxHeartbeats 1600000 in
theorem law4_any (a : Option Addr) (n cap : Nat) (z : Nat → Zk) (w : World) (hn : n ≤ maxLen) (hx : XsAt w a n z) (hs : Sizes n z) :
    Calls Egbg.prog 4 #[.slice a n cap] w fun e w' => e = .returned (.bool true) ∧ Below w.heap.size w w' := by
  have h10 := bytes10_any a n cap z w hn hx hs
  have h11 := bytes11_any a n cap z w hn hx
  by_cases hbig : 4096 < n
  · go_enter Egbg.func4, Egbg.ntmps4
    go_wp2_with fail
    refine h10.mono ?_
    rintro e w' ⟨⟨b, rfl⟩, hw⟩
    rw [hw]; clear hw w'
    go_wp2_with fail
    · go_ret
      exact ⟨rfl, Below.refl _ _⟩
    refine h11.mono ?_
    rintro e w' ⟨⟨t, rfl⟩, q, rfl⟩
    go_wp2_with fail
    · go_ret
      exact ⟨rfl, below_drewN (Below.refl _ _) q⟩
    · go_ret
      exact ⟨rfl, below_drewN (Below.refl _ _) q⟩
  · have hn4 : n ≤ 4096 := by omega
    have hb4 : decide ((4096 : Int) < (n : Int)) = false := by simp; omega
    have hnn : ((n : Int) != (n : Int)) = false := by simp
    clear hn hbig
    have hmk := make_ys n hn4
    go_enter Egbg.func4, Egbg.ntmps4
    go_wp2_with fail
    refine h10.mono ?_
    rintro e w' ⟨⟨b, rfl⟩, hw⟩
    rw [hw]; clear hw w' h10
    go_wp2_with fail
    · go_ret
      exact ⟨rfl, Below.refl _ _⟩
    refine h11.mono ?_
    rintro e w' ⟨⟨t, rfl⟩, q, rfl⟩
    clear h11
    go_wp2_with fail
    · go_ret
      exact ⟨rfl, below_drewN (Below.refl _ _) q⟩
    refine (build_any a n cap z _ hn4 (by exact hx)).mono ?_
    rintro e w1 ⟨rfl, hb1, hl1⟩
    have hbel1 : Below w.heap.size w w1 := (below_drewN (Below.refl _ _) q).trans hb1
    obtain ⟨E, hE⟩ : ∃ E : Nat → Nat, E = fun i => w.heap.size + 1 + 2 * i + 1 := ⟨_, rfl⟩
    have hel1 : ErrList w1 w.heap.size n E z := by rw [hE]; exact hl1
    clear hb1 hl1 hE
    go_wp2_with fail
    have hLY : w.heap.size < w1.heap.size := hel1.row
    have hEY : ∀ i, i < n → E i < w1.heap.size := fun i hi => (hel1.holds i hi).lt
    obtain ⟨Y, hY⟩ : ∃ Y, Y = w1.heap.size := ⟨_, rfl⟩
    have hrow0 : YRow (w1.alloc (.cells (madeCells (zcells Zk.nil) (n * 5)) 23)) Y n (fun i => if i < 0 then z i else Zk.nil) := by rw [hY]; exact YRow.made w1 n
    have hbel2 : Below w.heap.size w (w1.alloc (.cells (madeCells (zcells Zk.nil) (n * 5)) 23)) := hbel1.alloc (by omega) _
    have hel2 : ErrList (w1.alloc (.cells (madeCells (zcells Zk.nil) (n * 5)) 23)) w.heap.size n E z := hel1.of_kept hLY hEY (Nat.le_refl _) (fun b hb => Below.heap_alloc _ _ _ hb) (by simp)
    have hsz2 : Y < (w1.alloc (.cells (madeCells (zcells Zk.nil) (n * 5)) 23)).heap.size := by rw [hY]; simp
    rw [← hY] at hLY hEY ⊢
    clear hel1 hbel1 hmk
    generalize w1.alloc (.cells (madeCells (zcells Zk.nil) (n * 5)) 23) = w2 at *
    clear hY w1
    go_loopw [6] (fun vi wr => ∃ k : Nat, vi = .int .i64 k ∧ k ≤ n ∧ Below w.heap.size w wr ∧ ErrList wr w.heap.size n E z ∧ YRow wr Y n (fun i => if i < k then z i else Zk.nil) ∧ Y < wr.heap.size) (fun vi _ => n - (intOf vi).toNat)
    case atStart => exact ⟨0, rfl, by omega, hbel2, hel2, hrow0, hsz2⟩
    case round =>
      clear hbel2 hel2 hrow0 hsz2 w2
      obtain ⟨k, rfl, hk, hbel, hel, hrow, hYw⟩ := hrel
      by_cases hkn : k < n
      · obtain ⟨b, off, rfl, hz⟩ := hx k hkn
        have hbY : Y ≠ b := by have := hz.lt; omega
        obtain ⟨x0, x1, x2, x3, x4⟩ := hz.below hbel hz.lt
        obtain ⟨y0, y1, y2, y3, y4⟩ := hrow.zat hkn
        have f0 := hrow.frozen (k * 5)
        have f1 := hrow.frozen (k * 5 + 1)
        have f2 := hrow.frozen (k * 5 + 2)
        have f3 := hrow.frozen (k * 5 + 3)
        have f4 := hrow.frozen (k * 5 + 4)
        clear hz
        go_wp2_with fail
        go_roundw
        case rel =>
          refine ⟨k + 1, by go_num, by omega, below_putZ hbel (by omega) _ (z k), hel.of_kept hLY hEY (by omega) (fun b hb => heap_putZ _ _ _ (z k) _ (by omega)) (by rw [← size_putZ wr Y (k * 5) (z k)]; exact Nat.le_refl _), ?_, by rw [← size_putZ wr Y (k * 5) (z k)] at hYw; exact hYw⟩
          exact (hrow.put k (z k)).congr fun i _ => by
            by_cases e : i = k
            · subst e; rw [if_pos rfl, if_pos (by omega)]
            · rw [if_neg e]
              by_cases e2 : i < k
              · rw [if_pos e2, if_pos (by omega)]
              · rw [if_neg e2, if_neg (by omega)]
        case measure => simp [intOf]; omega
      · have hrow1 : YRow wr Y n (fun i => z i) := hrow.congr fun i hi => by rw [if_pos (by omega)]
        clear hrow
        go_wp2_with fail
        go_loopw [7] (fun vi wr => ∃ (i : Nat) (σ : Nat → Nat), vi = .int .i64 i ∧ 1 ≤ i ∧ (i ≤ n ∨ i = 1) ∧ Arr n σ ∧ Asc (fun t => z (σ t)) i ∧ Below w.heap.size w wr ∧ ErrList wr w.heap.size n E z ∧ YRow wr Y n (fun t => z (σ t)) ∧ Y < wr.heap.size) (fun vi _ => n - (intOf vi).toNat)
        case atStart => exact ⟨1, fun i => i, rfl, by omega, by omega, Arr.id n, fun p q _ _ => by omega, hbel, hel, hrow1, hYw⟩
        case round =>
          clear hbel hel hrow1 hYw
          obtain ⟨i, σ, rfl, hi1, hin, hσ, hasc, hbel, hel, hrow, hYw⟩ := hrel
          by_cases hlt : i < n
          · go_wp2_with fail
            go_loopw [8] (fun vj wr2 => ∃ (j : Nat) (τ : Nat → Nat), vj = .int .i64 j ∧ j ≤ i ∧ Arr n τ ∧ Ins (fun t => z (τ t)) i j ∧ Below w.heap.size w wr2 ∧ ErrList wr2 w.heap.size n E z ∧ YRow wr2 Y n (fun t => z (τ t)) ∧ Y < wr2.heap.size) (fun vj _ => (intOf vj).toNat)
            case atStart => exact ⟨i, σ, rfl, Nat.le_refl _, hσ, Ins.start hasc, hbel, hel, hrow, hYw⟩
            case round =>
              clear hσ hasc hbel hel hrow hYw σ
              obtain ⟨j, τ, rfl, hji, hτ, hins, hbel, hel, hrow, hYw⟩ := hrel
              by_cases hj0 : j = 0
              · have hg : decide ((0 : Int) < (j : Int)) = false := by simp; omega
                go_wp2_with fail
                go_quiet (fail)
                go_wp2_with fail
                go_roundw
                case rel => exact ⟨i + 1, τ, by go_num, by omega, by omega, hτ, hins.ended (Or.inl hj0), below_drewN hbel _, ⟨hel.cell, hel.free, hel.holds, hel.apart, hel.row⟩, hrow, hYw⟩
                case measure => simp [intOf]; omega
              · obtain ⟨j0, rfl⟩ : ∃ j0, j = j0 + 1 := ⟨j - 1, by omega⟩
                have hg2 : (j0 : Int) < (n : Int) := by omega
                have hg3 : (j0 : Int) + 1 < (n : Int) := by omega
                have hg4 : j0 + 1 < n := by omega
                have hg5 : ¬ ((j0 : Int) + 1 < 0) := by omega
                have hg6 : IntKind.i64.wrap (j0 : Int) = (j0 : Int) := by rw [IntKind.wrap_i64]; omega
                obtain ⟨A, hA⟩ : ∃ A, A = z (τ j0) := ⟨_, rfl⟩
                obtain ⟨B, hB⟩ : ∃ B, B = z (τ (j0 + 1)) := ⟨_, rfl⟩
                have hzA : ZAt wr Y (j0 * 5) A := by rw [hA]; exact hrow.zat (i := j0) (by omega)
                have hzB : ZAt wr Y ((j0 + 1) * 5) B := by rw [hB]; exact hrow.zat (i := j0 + 1) (by omega)
                have hsA := hs (τ j0) (hτ.lt j0 (by omega))
                have hsB := hs (τ (j0 + 1)) (hτ.lt (j0 + 1) (by omega))
                rw [← hA] at hsA
                rw [← hB] at hsB
                have h13 := fun W => keyCmp_any A B W hsA.1 hsA.2 hsB.1 hsB.2
                have hpos := cmpZ_pos A B
                generalize cmpZ A B = c at *
                unfold zval zcells at h13
                have HA : Hid (A = z (τ j0)) := hA
                have HB : Hid (B = z (τ (j0 + 1))) := hB
                clear hA hB hsA hsB
                obtain ⟨a0, a1, a2, a3, a4⟩ := hzA
                obtain ⟨b0, b1, b2, b3, b4⟩ := hzB
                cases hl : lessZ B A with
                | true =>
                  have hc : 0 < c := hpos.2 hl
                  have hcb : decide (0 < c) = true := by simp; omega
                  have HL : Hid (lessZ B A = true) := hl
                  clear hl hpos
                  go_wp2_with fail
                  go_cut [58] (fun s58 wx => s58 = .bool true ∧ Below w.heap.size w wx ∧ ErrList wx w.heap.size n E z ∧ YRow wx Y n (fun t => z (τ t)) ∧ Y < wx.heap.size)
                  case first =>
                    go_region_held3 (fun w' => w'.cell? ⟨Y, j0 * 5, none⟩ = some (.string A.fn) ∧ w'.cell? ⟨Y, j0 * 5 + 1, none⟩ = some (.int .i64 A.off) ∧ w'.cell? ⟨Y, j0 * 5 + 2, none⟩ = some (.int .i64 A.line) ∧ w'.cell? ⟨Y, j0 * 5 + 3, none⟩ = some (.int .i64 A.col) ∧ w'.cell? ⟨Y, j0 * 5 + 4, none⟩ = some (.string A.msg)
                        ∧ w'.cell? ⟨Y, (j0 + 1) * 5, none⟩ = some (.string B.fn) ∧ w'.cell? ⟨Y, (j0 + 1) * 5 + 1, none⟩ = some (.int .i64 B.off) ∧ w'.cell? ⟨Y, (j0 + 1) * 5 + 2, none⟩ = some (.int .i64 B.line) ∧ w'.cell? ⟨Y, (j0 + 1) * 5 + 3, none⟩ = some (.int .i64 B.col) ∧ w'.cell? ⟨Y, (j0 + 1) * 5 + 4, none⟩ = some (.string B.msg))
                      (go_keep)
                      (first | (go_at_call 13; refine (h13 _).mono ?_; rintro e w' ⟨rfl, q3, rfl⟩))
                    go_wp2_with fail
                    go_meet
                    case rel =>
                      have hq : ∀ x y q1, Below wr.heap.size wr (((wr.alloc x).alloc y).drewN q1) := fun x y q1 => below_drewN (((Below.refl _ _).alloc (Nat.le_refl _) _).alloc (by simp) _) q1
                      exact ⟨rfl, hbel.trans ((hq _ _ _).mono hbel.size), hel.of_kept hLY hEY (by omega) (fun b hb => (hq _ _ _).block b (by omega)) (hq _ _ _).size, (hrow.alloc _).alloc _, Nat.lt_of_lt_of_le hYw (hq _ _ _).size⟩
                  case rest =>
                    clear a0 a1 a2 a3 a4 b0 b1 b2 b3 b4 hbel hel hrow hYw h13
                    obtain ⟨rfl, hbel, hel, hrow, hYw⟩ := hcut
                    have hzA : ZAt wc Y (j0 * 5) A := by rw [HA.out]; exact hrow.zat (i := j0) (by omega)
                    have hzB : ZAt wc Y ((j0 + 1) * 5) B := by rw [HB.out]; exact hrow.zat (i := j0 + 1) (by omega)
                    obtain ⟨a0, a1, a2, a3, a4⟩ := hzA
                    obtain ⟨b0, b1, b2, b3, b4⟩ := hzB
                    have f0 := hrow.frozen (j0 * 5)
                    have f1 := hrow.frozen (j0 * 5 + 1)
                    have f2 := hrow.frozen (j0 * 5 + 2)
                    have f3 := hrow.frozen (j0 * 5 + 3)
                    have f4 := hrow.frozen (j0 * 5 + 4)
                    have f5 := hrow.frozen ((j0 + 1) * 5)
                    have f6 := hrow.frozen ((j0 + 1) * 5 + 1)
                    have f7 := hrow.frozen ((j0 + 1) * 5 + 2)
                    have f8 := hrow.frozen ((j0 + 1) * 5 + 3)
                    have f9 := hrow.frozen ((j0 + 1) * 5 + 4)
                    go_wp2_with fail
                    go_roundw
                    case rel =>
                      have hS := swapStep (o := .cells (zcells B) 23) hrow j0 A B HA.out HB.out
                      refine ⟨j0, swapF τ (j0 + 1), rfl, by omega, hτ.swap (j0 + 1) (by omega) (by omega), ?_, hS.below hbel (by omega), hel.of_kept hLY hEY (by omega) (fun b hb => hS.kept b (by omega) (by omega)) (Nat.le_of_lt hS.size), ?_, Nat.lt_trans hYw hS.size⟩
                      · rw [swapF_comp z τ (j0 + 1)]
                        exact hins.step (by omega) hji (by show lessZ (z (τ (j0 + 1))) (z (τ (j0 + 1 - 1))) = true; rw [Nat.add_sub_cancel, ← HA.out, ← HB.out]; exact HL.out)
                      · rw [swapF_comp z τ (j0 + 1)]
                        exact hS.row
                    case measure => simp [intOf]
                | false =>
                  have hc : ¬ 0 < c := fun h => by rw [hpos.1 h] at hl; exact absurd hl (by decide)
                  have hcb : decide (0 < c) = false := by simp; omega
                  have HL : Hid (lessZ B A = false) := hl
                  clear hl hpos
                  go_wp2_with fail
                  go_cut [58] (fun s58 wx => s58 = .bool false ∧ Below w.heap.size w wx ∧ ErrList wx w.heap.size n E z ∧ YRow wx Y n (fun t => z (τ t)) ∧ Y < wx.heap.size)
                  case first =>
                    go_region_held3 (fun w' => w'.cell? ⟨Y, j0 * 5, none⟩ = some (.string A.fn) ∧ w'.cell? ⟨Y, j0 * 5 + 1, none⟩ = some (.int .i64 A.off) ∧ w'.cell? ⟨Y, j0 * 5 + 2, none⟩ = some (.int .i64 A.line) ∧ w'.cell? ⟨Y, j0 * 5 + 3, none⟩ = some (.int .i64 A.col) ∧ w'.cell? ⟨Y, j0 * 5 + 4, none⟩ = some (.string A.msg)
                        ∧ w'.cell? ⟨Y, (j0 + 1) * 5, none⟩ = some (.string B.fn) ∧ w'.cell? ⟨Y, (j0 + 1) * 5 + 1, none⟩ = some (.int .i64 B.off) ∧ w'.cell? ⟨Y, (j0 + 1) * 5 + 2, none⟩ = some (.int .i64 B.line) ∧ w'.cell? ⟨Y, (j0 + 1) * 5 + 3, none⟩ = some (.int .i64 B.col) ∧ w'.cell? ⟨Y, (j0 + 1) * 5 + 4, none⟩ = some (.string B.msg))
                      (go_keep)
                      (first | (go_at_call 13; refine (h13 _).mono ?_; rintro e w' ⟨rfl, q3, rfl⟩))
                    go_wp2_with fail
                    go_meet
                    case rel =>
                      have hq : ∀ x y q1, Below wr.heap.size wr (((wr.alloc x).alloc y).drewN q1) := fun x y q1 => below_drewN (((Below.refl _ _).alloc (Nat.le_refl _) _).alloc (by simp) _) q1
                      exact ⟨rfl, hbel.trans ((hq _ _ _).mono hbel.size), hel.of_kept hLY hEY (by omega) (fun b hb => (hq _ _ _).block b (by omega)) (hq _ _ _).size, (hrow.alloc _).alloc _, Nat.lt_of_lt_of_le hYw (hq _ _ _).size⟩
                  case rest =>
                    clear a0 a1 a2 a3 a4 b0 b1 b2 b3 b4 hbel hel hrow hYw h13
                    obtain ⟨rfl, hbel, hel, hrow, hYw⟩ := hcut
                    go_wp2_with fail
                    go_roundw
                    case rel => exact ⟨i + 1, τ, by go_num, by omega, by omega, hτ, hins.ended (Or.inr (by show lessZ (z (τ (j0 + 1))) (z (τ (j0 + 1 - 1))) = false; rw [Nat.add_sub_cancel, ← HA.out, ← HB.out]; exact HL.out)), hbel, hel, hrow, hYw⟩
                    case measure => simp [intOf]; omega
          · have hascn : Asc (fun t => z (σ t)) n := fun p q hpq hq => hasc p q hpq (by omega)
            clear hasc
            go_wp2_with fail
            refine (sort_any hel n (by omega)).mono ?_
            rintro e w4 ⟨rfl, π, hS⟩
            have hsame : Hid (∀ t, t < n → sameZ (z (π t)) (z (σ t)) = true) := fun t ht => same_of_asc ⟨hS.lt, hS.inj⟩ hσ (fun p q hpq hq => hS.asc p q hpq hq) hascn t ht
            have hbel4 : Below w.heap.size w w4 := hbel.trans (hS.kept.below (Nat.le_refl _) hbel.size)
            have hrow4 : YRow w4 Y n (fun t => z (σ t)) := World.rowIs.of_block hrow (hS.kept.block Y hYw (by omega))
            have hYw4 : Y < w4.heap.size := Nat.lt_of_lt_of_le hYw hS.kept.size
            obtain ⟨E', hE'⟩ : ∃ E' : Nat → Nat, E' = fun i => E (π i) := ⟨_, rfl⟩
            have hel4 : ErrList w4 w.heap.size n E' (fun i => z (π i)) := by rw [hE']; exact hS.list
            have hEY' : ∀ i, i < n → E' i < Y := fun i hi => by rw [hE']; exact hEY _ (hS.lt i hi)
            clear hS hbel hel hrow hYw hσ hascn hE' hEY
            go_wp2_with fail
            go_loopw [10] (fun vi wr => ∃ k : Nat, vi = .int .i64 k ∧ k ≤ n ∧ Below w.heap.size w wr ∧ ErrList wr w.heap.size n E' (fun i => z (π i)) ∧ YRow wr Y n (fun t => z (σ t)) ∧ Y < wr.heap.size) (fun vi _ => n - (intOf vi).toNat)
            case atStart => exact ⟨0, rfl, by omega, hbel4, hel4, hrow4, hYw4⟩
            case round =>
              clear hbel4 hel4 hrow4 hYw4
              obtain ⟨m, rfl, hm, hbel, hel, hrow, hYw⟩ := hrel
              by_cases hmn : m < n
              · obtain ⟨A, hA⟩ : ∃ A, A = z (π m) := ⟨_, rfl⟩
                obtain ⟨B, hB⟩ : ∃ B, B = z (σ m) := ⟨_, rfl⟩
                obtain ⟨e, he⟩ : ∃ e, e = E' m := ⟨_, rfl⟩
                have hck : wr.cell? ⟨w.heap.size, m, none⟩ = some (.pointer (some ⟨e, 0, none⟩)) := by rw [he]; exact hel.cell m hmn
                have hzA : ZAt wr e 0 A := by rw [he, hA]; exact hel.holds m hmn
                have hzB : ZAt wr Y (m * 5) B := by rw [hB]; exact hrow.zat (i := m) hmn
                have hsm : sameZ A B = true := by rw [hA, hB]; exact hsame.out m hmn
                have h15 := fun W h => keyOf_any e A W h
                have h9 := fun W => sameKey_any A B W
                rw [hsm] at h9
                unfold zval zcells at h15 h9
                clear hA hB he hsm
                obtain ⟨i0, i1, i2, i3, i4⟩ := hzA
                obtain ⟨x0, x1, x2, x3, x4⟩ := hzB
                simp only [Nat.zero_add] at i0 i1 i2 i3 i4
                go_wp2_with fail
                go_cut [99] (fun s99 wx => s99 = .bool false ∧ Below w.heap.size w wx ∧ ErrList wx w.heap.size n E' (fun i => z (π i)) ∧ YRow wx Y n (fun t => z (σ t)) ∧ Y < wx.heap.size)
                case first =>
                  go_region_held3 (fun w' => w'.cell? ⟨w.heap.size, m, none⟩ = some (.pointer (some ⟨e, 0, none⟩)) ∧ w'.cell? ⟨Y, m * 5, none⟩ = some (.string B.fn) ∧ w'.cell? ⟨Y, m * 5 + 1, none⟩ = some (.int .i64 B.off) ∧ w'.cell? ⟨Y, m * 5 + 2, none⟩ = some (.int .i64 B.line) ∧ w'.cell? ⟨Y, m * 5 + 3, none⟩ = some (.int .i64 B.col) ∧ w'.cell? ⟨Y, m * 5 + 4, none⟩ = some (.string B.msg))
                    (first | (go_keep; done) | (refine ⟨?_, ?_, ?_, ?_, ?_, ?_⟩ <;> refine cell_later (w := wr) ?_ (by assumption) <;> (repeat (first | exact Below.refl _ _ | apply Below.drew | (refine Below.alloc ?_ (by simp <;> omega) _)))))
                    (first
                      | (go_at_call 15; refine (h15 _ ?_).mono ?_; (simp [ZAt, *]); rintro e w' ⟨rfl, rfl⟩)
                      | (go_at_call 9; refine (h9 _).mono ?_; rintro e w' ⟨rfl, rfl⟩))
                  go_wp2_with fail
                  go_meet
                  case rel =>
                    have hq : ∀ x y v, Below wr.heap.size wr (((wr.alloc x).alloc y).alloc v).drew.drew := fun x y v => (((((Below.refl _ _).alloc (Nat.le_refl _) _).alloc (by simp) _).alloc (by simp; omega) _).drew).drew
                    exact ⟨rfl, hbel.trans ((hq _ _ _).mono hbel.size), hel.of_kept hLY hEY' (by omega) (fun b hb => (hq _ _ _).block b (by omega)) (hq _ _ _).size, (((hrow.alloc _).alloc _).alloc _), Nat.lt_of_lt_of_le hYw (hq _ _ _).size⟩
                case rest =>
                  clear i0 i1 i2 i3 i4 x0 x1 x2 x3 x4 hck hbel hel hrow hYw h15 h9
                  obtain ⟨rfl, hbel, hel, hrow, hYw⟩ := hcut
                  go_wp2_with fail
                  go_roundw
                  case rel => exact ⟨m + 1, by go_num, by omega, hbel, hel, hrow, hYw⟩
                  case measure => simp [intOf]; omega
              · go_wp2_with fail
                go_ret
                exact ⟨rfl, hbel⟩

end Go.Proofs.Yoegbw
