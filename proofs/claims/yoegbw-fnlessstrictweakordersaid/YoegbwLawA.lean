/-
  THE WALK OF zzlaws_parser_b28.FnLessStrictWeakOrder: whatever the three records, it returns true; no block that was there has turned.
-/
import Derived.Test.YoegbwWalkA
import Derived.Deep.RegionHeld3
import Derived.Deep.DeepCutAuto
namespace Go.Proofs.Yoegbw
open Go.RowKit

def zOf (x y z : Zk) : Nat → Zk
  | 0 => x
  | 1 => y
  | _ => z

def Ready (t : Nat → Zk) (sb kb : Nat) (W : World) : Prop :=
  ∀ i, i < 3 → (∃ b, W.cell? ⟨sb, i, none⟩ = some (.pointer (some ⟨b, 0, none⟩)) ∧ ZAt W b 0 (t i)) ∧ ZAt W kb (i * 5) (t i)

/-- The first half of 'Ready': the list of the three errors alone. -/
def Listed (t : Nat → Zk) (sb : Nat) (W : World) : Prop := ∀ i, i < 3 → ∃ b, W.cell? ⟨sb, i, none⟩ = some (.pointer (some ⟨b, 0, none⟩)) ∧ ZAt W b 0 (t i)

theorem Listed.mk {x y z : Zk} {sb : Nat} {W : World} {b0 b1 b2 : Nat} (c0 : W.cell? ⟨sb, 0, none⟩ = some (.pointer (some ⟨b0, 0, none⟩))) (c1 : W.cell? ⟨sb, 1, none⟩ = some (.pointer (some ⟨b1, 0, none⟩))) (c2 : W.cell? ⟨sb, 2, none⟩ = some (.pointer (some ⟨b2, 0, none⟩)))
    (h0 : ZAt W b0 0 x) (h1 : ZAt W b1 0 y) (h2 : ZAt W b2 0 z) : Listed (zOf x y z) sb W := fun i hi => by
  match i, hi with
  | 0, _ => exact ⟨b0, c0, h0⟩
  | 1, _ => exact ⟨b1, c1, h1⟩
  | 2, _ => exact ⟨b2, c2, h2⟩

theorem Ready.mk {x y z : Zk} {sb kb : Nat} {W : World} (h : Listed (zOf x y z) sb W) (h0 : ZAt W kb 0 x) (h1 : ZAt W kb 5 y) (h2 : ZAt W kb 10 z) : Ready (zOf x y z) sb kb W := fun i hi => by
  refine ⟨h i hi, ?_⟩
  match i, hi with
  | 0, _ => exact h0
  | 1, _ => exact h1
  | 2, _ => exact h2

theorem Listed.below {t : Nat → Zk} {sb : Nat} {W W' : World} (h : Listed t sb W) (hb : Below W.heap.size W W') : Listed t sb W' := fun i hi => by
  obtain ⟨b, hc, hz⟩ := h i hi
  exact ⟨b, (hb.cell (p := ⟨sb, i, none⟩) (World.block_lt_of_cell? W _ hc)).trans hc, hz.below hb hz.lt⟩

theorem Ready.below {t : Nat → Zk} {sb kb : Nat} {W W' : World} (h : Ready t sb kb W) (hb : Below W.heap.size W W') : Ready t sb kb W' := fun i hi => by
  obtain ⟨⟨b, hc, hz⟩, hk⟩ := h i hi
  exact ⟨⟨b, (hb.cell (p := ⟨sb, i, none⟩) (World.block_lt_of_cell? W _ hc)).trans hc, hz.below hb hz.lt⟩, hk.below hb hk.lt⟩

theorem Ready.drewN {t : Nat → Zk} {sb kb : Nat} {W : World} (h : Ready t sb kb W) (q : Nat) : Ready t sb kb (W.drewN q) := h

theorem less_ready {t : Nat → Zk} {sb kb : Nat} {W : World} (h : Ready t sb kb W) (i j : Nat) (hi : i < 3) (hj : j < 3) :
    Calls Egbg.prog 8 #[.slice (some ⟨sb, 0, none⟩) 3 3, .int .i64 i, .int .i64 j] W fun e w' => e = .returned (.bool (lessZ (t i) (t j))) ∧ ∃ q, w' = W.drewN q := by
  obtain ⟨⟨b, hc, hz⟩, _⟩ := h i hi
  obtain ⟨⟨b', hc', hz'⟩, _⟩ := h j hj
  exact less_any sb 0 3 3 W i j hi hj (by omega) b b' (t i) (t j) (by rw [Nat.zero_add]; exact hc) (by rw [Nat.zero_add]; exact hc') hz hz'

theorem less_is {t : Nat → Zk} {sb kb : Nat} {W : World} (h : Ready t sb kb W) (i j : Nat) (hi : i < 3) (hj : j < 3) {b : Bool} (hb : Hid (lessZ (t i) (t j) = b)) :
    Calls Egbg.prog 8 #[.slice (some ⟨sb, 0, none⟩) 3 3, .int .i64 i, .int .i64 j] W fun e w' => e = .returned (.bool b) ∧ ∃ q, w' = W.drewN q := by
  have := less_ready h i j hi hj
  rw [hb.out] at this
  exact this

set_option maxHeartbeats 4000000 in
set_option maxRecDepth 100000 in
theorem law3_any (x y z : Zk) (w : World) (x0 : x.fn.size ≤ maxLen) (x4 : x.msg.size ≤ maxLen) (y0 : y.fn.size ≤ maxLen) (y4 : y.msg.size ≤ maxLen) (z0 : z.fn.size ≤ maxLen) (z4 : z.msg.size ≤ maxLen) :
    Calls Egbg.prog 3 #[zval x, zval y, zval z] w fun e w' => e = .returned (.bool true) ∧ Below w.heap.size w w' := by
  have h6 := fun W => bytes6_any x y z W x0 x4 y0 y4 z0 z4
  have o1 := fun W => zzOne_any x W
  have o2 := fun W => zzOne_any y W
  have o3 := fun W => zzOne_any z W
  obtain ⟨t, ht⟩ : ∃ t, t = zOf x y z := ⟨_, rfl⟩
  have HT : Hid (t = zOf x y z) := ht
  clear ht
  obtain ⟨f, o, l, c, m⟩ := x
  obtain ⟨f', o', l', c', m'⟩ := y
  obtain ⟨f'', o'', l'', c'', m''⟩ := z
  unfold maxLen at x0 x4 y0 y4 z0 z4
  dsimp only at x0 x4 y0 y4 z0 z4
  unfold zval zcells at h6 o1 o2 o3
  unfold zval
  go_enter Egbg.func3, Egbg.ntmps3
  go_upto_region 5 with (go_at_call 6; refine (h6 _).mono ?_; rintro e w' ⟨⟨b, rfl⟩, rfl⟩)
  · go_ret
    exact ⟨rfl, ((((((Below.refl _ _).alloc (Nat.le_refl _) _).alloc (by simp) _).alloc (by simp; omega) _).alloc (by simp; omega) _).alloc (by simp; omega) _).alloc (by simp; omega) _⟩
  · go_ret
    exact ⟨rfl, ((((((Below.refl _ _).alloc (Nat.le_refl _) _).alloc (by simp) _).alloc (by simp; omega) _).alloc (by simp; omega) _).alloc (by simp; omega) _).alloc (by simp; omega) _⟩
  clear h6
  go_cut [7] (fun s7 wx => ∃ sb, s7 = .slice (some ⟨sb, 0, none⟩) 3 3 ∧ Below w.heap.size w wx ∧ ZAt wx w.heap.size 0 ⟨f, o, l, c, m⟩ ∧ ZAt wx (w.heap.size + 1) 0 ⟨f', o', l', c', m'⟩ ∧ ZAt wx (w.heap.size + 1 + 1) 0 ⟨f'', o'', l'', c'', m''⟩ ∧ Listed t sb wx)
  case first =>
    go_region_held3 (fun w' => w'.cell? ⟨w.heap.size, 0, none⟩ = some (.string f) ∧ w'.cell? ⟨w.heap.size, 1, none⟩ = some (.int .i64 o) ∧ w'.cell? ⟨w.heap.size, 2, none⟩ = some (.int .i64 l) ∧ w'.cell? ⟨w.heap.size, 3, none⟩ = some (.int .i64 c) ∧ w'.cell? ⟨w.heap.size, 4, none⟩ = some (.string m)
        ∧ w'.cell? ⟨w.heap.size + 1, 0, none⟩ = some (.string f') ∧ w'.cell? ⟨w.heap.size + 1, 1, none⟩ = some (.int .i64 o') ∧ w'.cell? ⟨w.heap.size + 1, 2, none⟩ = some (.int .i64 l') ∧ w'.cell? ⟨w.heap.size + 1, 3, none⟩ = some (.int .i64 c') ∧ w'.cell? ⟨w.heap.size + 1, 4, none⟩ = some (.string m')
        ∧ w'.cell? ⟨w.heap.size + 2, 0, none⟩ = some (.string f'') ∧ w'.cell? ⟨w.heap.size + 2, 1, none⟩ = some (.int .i64 o'') ∧ w'.cell? ⟨w.heap.size + 2, 2, none⟩ = some (.int .i64 l'') ∧ w'.cell? ⟨w.heap.size + 2, 3, none⟩ = some (.int .i64 c'') ∧ w'.cell? ⟨w.heap.size + 2, 4, none⟩ = some (.string m''))
      (go_simp)
      (first
        | (go_at_call_of 7 (Value.string f); refine (o1 _).mono ?_; rintro e w' ⟨rfl, rfl⟩)
        | (go_at_call_of 7 (Value.string f'); refine (o2 _).mono ?_; rintro e w' ⟨rfl, rfl⟩)
        | (go_at_call_of 7 (Value.string f''); refine (o3 _).mono ?_; rintro e w' ⟨rfl, rfl⟩))
    clear o1 o2 o3
    go_wp2_with fail
    go_meet
    case rel =>
      rw [HT.out]
      refine ⟨w.heap.size + 1 + 1 + 1 + 1 + 1 + 1 + 1 + 1 + 1 + 1 + 1 + 1, rfl, ?_, ?_, ?_, ?_, ?_⟩
      · repeat (first | exact Below.refl _ _ | apply Below.drew | (refine Below.alloc ?_ (by simp <;> omega) _))
      · unfold ZAt; go_simp
      · unfold ZAt; go_simp
      · unfold ZAt; go_simp
      · refine Listed.mk (b0 := w.heap.size + 1 + 1 + 1 + 1 + 1 + 1 + 1) (b1 := w.heap.size + 1 + 1 + 1 + 1 + 1 + 1 + 1 + 1 + 1) (b2 := w.heap.size + 1 + 1 + 1 + 1 + 1 + 1 + 1 + 1 + 1 + 1 + 1) ?_ ?_ ?_ ?_ ?_ ?_
        · go_simp
        · go_simp
        · go_simp
        · unfold ZAt; go_simp
        · unfold ZAt; go_simp
        · unfold ZAt; go_simp
  case rest =>
    clear o1 o2 o3 x0 x4 y0 y4 z0 z4
    obtain ⟨sb, rfl, hbel, ⟨b0, b1, b2, b3, b4⟩, ⟨b5, b6, b7, b8, b9⟩, ⟨b10, b11, b12, b13, b14⟩, hli⟩ := hcut
    dsimp only at b0 b1 b2 b3 b4 b5 b6 b7 b8 b9 b10 b11 b12 b13 b14
    simp only [Nat.zero_add] at b0 b1 b2 b3 b4 b5 b6 b7 b8 b9 b10 b11 b12 b13 b14
    go_upto_region 7 with fail
    go_cut [9, 8] (fun s9 s8 wx => s9 = .int .i64 0 ∧ ∃ kb, s8 = .pointer (some ⟨kb, 0, none⟩) ∧ Below w.heap.size w wx ∧ Ready t sb kb wx)
    case first =>
      go_wp2_with fail
      go_meet
      case rel =>
        rw [HT.out] at hli ⊢
        have hsz := hbel.size
        refine ⟨rfl, wc.heap.size, rfl, hbel.alloc hsz _, Ready.mk (hli.below ((Below.refl _ _).alloc (Nat.le_refl _) _)) ?_ ?_ ?_⟩
        · unfold ZAt; go_simp
        · unfold ZAt; go_simp
        · unfold ZAt; go_simp
    case rest =>
      clear b0 b1 b2 b3 b4 b5 b6 b7 b8 b9 b10 b11 b12 b13 b14 hbel hli HT
      obtain ⟨rfl, kb, rfl, hbel, hrd⟩ := hcut
      go_wp2_with fail
      go_loopw [9] (fun vi wr => ∃ i : Nat, vi = .int .i64 i ∧ i ≤ 3 ∧ Below w.heap.size w wr ∧ Ready t sb kb wr) (fun vi _ => 3 - (intOf vi).toNat)
      case atStart => exact ⟨0, rfl, by omega, hbel, hrd⟩
      case round =>
        clear hbel hrd
        obtain ⟨i, rfl, hi3, hbel, hrd⟩ := hrel
        by_cases hi : i < 3
        · have l1 := less_ready hrd i i hi hi
          rw [lessZ_irrefl] at l1
          go_wp2_with (go_at_call 8; refine l1.mono ?_; rintro e w' ⟨rfl, q, rfl⟩)
          go_loopw [10] (fun vj wr2 => ∃ j : Nat, vj = .int .i64 j ∧ j ≤ 3 ∧ Below w.heap.size w wr2 ∧ Ready t sb kb wr2) (fun vj _ => 3 - (intOf vj).toNat)
          case atStart => exact ⟨0, rfl, by omega, below_drewN hbel q, hrd⟩
          case round =>
            clear hbel hrd l1
            obtain ⟨j, rfl, hj3, hbel, hrd⟩ := hrel
            by_cases hj : j < 3
            · cases hij : lessZ (t i) (t j) with
              | true =>
                have hji := lessZ_asymm hij
                have Hij : Hid (lessZ (t i) (t j) = true) := hij
                have Hji : Hid (lessZ (t j) (t i) = false) := hji
                have HS : sameZ (t i) (t j) = false := by rw [sameZ_eq, hij, hji]; rfl
                have hs := fun W => sameKey_any (t i) (t j) W
                rw [HS] at hs
                unfold zval zcells at hs
                clear hij hji HS
                obtain ⟨_, i0, i1, i2, i3, i4⟩ := hrd i hi
                obtain ⟨_, j0, j1, j2, j3, j4⟩ := hrd j hj
                go_wp2_with fail
                refine (less_is (by exact hrd) i j hi hj Hij).mono ?_
                rintro e w' ⟨rfl, q1, rfl⟩
                go_wp2_with fail
                refine (less_is (by exact hrd) j i hj hi Hji).mono ?_
                rintro e w' ⟨rfl, q2, rfl⟩
                go_wp2_with fail
                go_cut [91] (fun s91 wx => s91 = .bool false ∧ Below w.heap.size w wx ∧ Ready t sb kb wx)
                case first =>
                  first | (go_region_with (go_at_call 9; refine (hs _).mono ?_; rintro e w' ⟨rfl, rfl⟩)) | fail
                  all_goals
                    go_wp2_with fail
                    go_meet
                    case rel =>
                      have hsz := hbel.size
                      refine ⟨rfl, ?_, hrd.below ?_⟩
                      · repeat (first | exact hbel | apply Below.drew | apply below_drewN | (refine Below.alloc ?_ (by simp <;> omega) _))
                      · repeat (first | exact Below.refl _ _ | apply Below.drew | apply below_drewN | (refine Below.alloc ?_ (by simp) _))
                case rest =>
                  clear hbel hrd i0 i1 i2 i3 i4 j0 j1 j2 j3 j4 hs
                  obtain ⟨rfl, hbel, hrd⟩ := hcut
                  go_wp2_with fail
                  go_loopw [13] (fun vk wr3 => ∃ k : Nat, vk = .int .i64 k ∧ k ≤ 3 ∧ Below w.heap.size w wr3 ∧ Ready t sb kb wr3) (fun vk _ => 3 - (intOf vk).toNat)
                  case atStart => exact ⟨0, rfl, by omega, hbel, hrd⟩
                  case round =>
                    clear hbel hrd
                    obtain ⟨k, rfl, hk3, hbel, hrd⟩ := hrel
                    by_cases hk : k < 3
                    · cases hjk : lessZ (t j) (t k) with
                      | false =>
                        have Hjk : Hid (lessZ (t j) (t k) = false) := hjk
                        clear hjk
                        go_wp2_with fail
                        refine (less_is (by exact hrd) j k hj hk Hjk).mono ?_
                        rintro e w' ⟨rfl, q3, rfl⟩
                        go_wp2_with fail
                        go_roundw
                        case rel => exact ⟨k + 1, by go_num, by omega, below_drewN hbel _, hrd⟩
                        case measure => simp [intOf]; omega
                      | true =>
                        have Hjk : Hid (lessZ (t j) (t k) = true) := hjk
                        have Hik : Hid (lessZ (t i) (t k) = true) := lessZ_trans _ _ _ Hij.out hjk
                        clear hjk
                        go_wp2_with fail
                        refine (less_is (by exact hrd) j k hj hk Hjk).mono ?_
                        rintro e w' ⟨rfl, q3, rfl⟩
                        go_wp2_with fail
                        refine (less_is (by exact hrd) i k hi hk Hik).mono ?_
                        rintro e w' ⟨rfl, q4, rfl⟩
                        go_wp2_with fail
                        go_roundw
                        case rel => exact ⟨k + 1, by go_num, by omega, below_drewN hbel _, hrd⟩
                        case measure => simp [intOf]; omega
                    · go_wp2_with fail
                      go_roundw
                      case rel => exact ⟨j + 1, by go_num, by omega, hbel, hrd⟩
                      case measure => simp [intOf]; omega
              | false =>
                cases hji : lessZ (t j) (t i) with
                | true =>
                  have Hij : Hid (lessZ (t i) (t j) = false) := hij
                  have Hji : Hid (lessZ (t j) (t i) = true) := hji
                  have HS : sameZ (t i) (t j) = false := by rw [sameZ_eq, hij, hji]; rfl
                  have hs := fun W => sameKey_any (t i) (t j) W
                  rw [HS] at hs
                  unfold zval zcells at hs
                  clear hij hji HS
                  obtain ⟨_, i0, i1, i2, i3, i4⟩ := hrd i hi
                  obtain ⟨_, j0, j1, j2, j3, j4⟩ := hrd j hj
                  go_wp2_with fail
                  refine (less_is (by exact hrd) i j hi hj Hij).mono ?_
                  rintro e w' ⟨rfl, q1, rfl⟩
                  go_wp2_with fail
                  refine (less_is (by exact hrd) j i hj hi Hji).mono ?_
                  rintro e w' ⟨rfl, q2, rfl⟩
                  go_wp2_with fail
                  go_cut [91] (fun s91 wx => s91 = .bool false ∧ Below w.heap.size w wx ∧ Ready t sb kb wx)
                  case first =>
                    go_region_held3 (fun w' => w'.cell? ⟨kb, i * 5, none⟩ = some (.string (t i).fn) ∧ w'.cell? ⟨kb, i * 5 + 1, none⟩ = some (.int .i64 (t i).off) ∧ w'.cell? ⟨kb, i * 5 + 2, none⟩ = some (.int .i64 (t i).line) ∧ w'.cell? ⟨kb, i * 5 + 3, none⟩ = some (.int .i64 (t i).col) ∧ w'.cell? ⟨kb, i * 5 + 4, none⟩ = some (.string (t i).msg)
                        ∧ w'.cell? ⟨kb, j * 5, none⟩ = some (.string (t j).fn) ∧ w'.cell? ⟨kb, j * 5 + 1, none⟩ = some (.int .i64 (t j).off) ∧ w'.cell? ⟨kb, j * 5 + 2, none⟩ = some (.int .i64 (t j).line) ∧ w'.cell? ⟨kb, j * 5 + 3, none⟩ = some (.int .i64 (t j).col) ∧ w'.cell? ⟨kb, j * 5 + 4, none⟩ = some (.string (t j).msg))
                      (go_keep) (first | (go_at_call 9; refine (hs _).mono ?_; rintro e w' ⟨rfl, rfl⟩))
                    go_wp2_with fail
                    go_meet
                    case rel =>
                      have hsz := hbel.size
                      refine ⟨rfl, ?_, hrd.below ?_⟩
                      · repeat (first | exact hbel | apply Below.drew | apply below_drewN | (refine Below.alloc ?_ (by simp <;> omega) _))
                      · repeat (first | exact Below.refl _ _ | apply Below.drew | apply below_drewN | (refine Below.alloc ?_ (by simp) _))
                  case rest =>
                    clear hbel hrd i0 i1 i2 i3 i4 j0 j1 j2 j3 j4 hs
                    obtain ⟨rfl, hbel, hrd⟩ := hcut
                    go_wp2_with fail
                    go_loopw [13] (fun vk wr3 => ∃ k : Nat, vk = .int .i64 k ∧ k ≤ 3 ∧ Below w.heap.size w wr3 ∧ Ready t sb kb wr3) (fun vk _ => 3 - (intOf vk).toNat)
                    case atStart => exact ⟨0, rfl, by omega, hbel, hrd⟩
                    case round =>
                      clear hbel hrd
                      obtain ⟨k, rfl, hk3, hbel, hrd⟩ := hrel
                      by_cases hk : k < 3
                      · go_wp2_with fail
                        go_roundw
                        case rel => exact ⟨k + 1, by go_num, by omega, hbel, hrd⟩
                        case measure => simp [intOf]; omega
                      · go_wp2_with fail
                        go_roundw
                        case rel => exact ⟨j + 1, by go_num, by omega, hbel, hrd⟩
                        case measure => simp [intOf]; omega
                | false =>
                  have Hij : Hid (lessZ (t i) (t j) = false) := hij
                  have Hji : Hid (lessZ (t j) (t i) = false) := hji
                  have HS : sameZ (t i) (t j) = true := by rw [sameZ_eq, hij, hji]; rfl
                  have hs := fun W => sameKey_any (t i) (t j) W
                  rw [HS] at hs
                  unfold zval zcells at hs
                  clear hij hji HS
                  obtain ⟨_, i0, i1, i2, i3, i4⟩ := hrd i hi
                  obtain ⟨_, j0, j1, j2, j3, j4⟩ := hrd j hj
                  go_wp2_with fail
                  refine (less_is (by exact hrd) i j hi hj Hij).mono ?_
                  rintro e w' ⟨rfl, q1, rfl⟩
                  go_wp2_with fail
                  refine (less_is (by exact hrd) j i hj hi Hji).mono ?_
                  rintro e w' ⟨rfl, q2, rfl⟩
                  go_wp2_with fail
                  go_cut [91] (fun s91 wx => s91 = .bool false ∧ Below w.heap.size w wx ∧ Ready t sb kb wx)
                  case first =>
                    go_region_held3 (fun w' => w'.cell? ⟨kb, i * 5, none⟩ = some (.string (t i).fn) ∧ w'.cell? ⟨kb, i * 5 + 1, none⟩ = some (.int .i64 (t i).off) ∧ w'.cell? ⟨kb, i * 5 + 2, none⟩ = some (.int .i64 (t i).line) ∧ w'.cell? ⟨kb, i * 5 + 3, none⟩ = some (.int .i64 (t i).col) ∧ w'.cell? ⟨kb, i * 5 + 4, none⟩ = some (.string (t i).msg)
                        ∧ w'.cell? ⟨kb, j * 5, none⟩ = some (.string (t j).fn) ∧ w'.cell? ⟨kb, j * 5 + 1, none⟩ = some (.int .i64 (t j).off) ∧ w'.cell? ⟨kb, j * 5 + 2, none⟩ = some (.int .i64 (t j).line) ∧ w'.cell? ⟨kb, j * 5 + 3, none⟩ = some (.int .i64 (t j).col) ∧ w'.cell? ⟨kb, j * 5 + 4, none⟩ = some (.string (t j).msg))
                      (go_keep) (first | (go_at_call 9; refine (hs _).mono ?_; rintro e w' ⟨rfl, rfl⟩))
                    go_wp2_with fail
                    go_meet
                    case rel =>
                      have hsz := hbel.size
                      refine ⟨rfl, ?_, hrd.below ?_⟩
                      · repeat (first | exact hbel | apply Below.drew | apply below_drewN | (refine Below.alloc ?_ (by simp <;> omega) _))
                      · repeat (first | exact Below.refl _ _ | apply Below.drew | apply below_drewN | (refine Below.alloc ?_ (by simp) _))
                  case rest =>
                    clear hbel hrd i0 i1 i2 i3 i4 j0 j1 j2 j3 j4 hs
                    obtain ⟨rfl, hbel, hrd⟩ := hcut
                    go_wp2_with fail
                    go_loopw [13] (fun vk wr3 => ∃ k : Nat, vk = .int .i64 k ∧ k ≤ 3 ∧ Below w.heap.size w wr3 ∧ Ready t sb kb wr3) (fun vk _ => 3 - (intOf vk).toNat)
                    case atStart => exact ⟨0, rfl, by omega, hbel, hrd⟩
                    case round =>
                      clear hbel hrd
                      obtain ⟨k, rfl, hk3, hbel, hrd⟩ := hrel
                      by_cases hk : k < 3
                      · go_wp2_with fail
                        go_roundw
                        case rel => exact ⟨k + 1, by go_num, by omega, hbel, hrd⟩
                        case measure => simp [intOf]; omega
                      · go_wp2_with fail
                        go_roundw
                        case rel => exact ⟨j + 1, by go_num, by omega, hbel, hrd⟩
                        case measure => simp [intOf]; omega
            · go_wp2_with fail
              go_roundw
              case rel => exact ⟨i + 1, by go_num, by omega, hbel, hrd⟩
              case measure => simp [intOf]; omega
        · go_wp2_with fail
          go_ret
          exact ⟨rfl, hbel⟩

end Go.Proofs.Yoegbw
