/-
  THE WALK OF zzlaws_parser_b28.FnSortPermutesAndOrders (5).
-/
import Derived.Test.YoegbwWalkC
namespace Go.Proofs.Yoegbw
open Go.RowKit

theorem Egbg.info4 : (Egbg.prog.info? 4).map (fun i => (i.zero, i.size, i.bytes)) = some (some (.bool false), 1, 1) := by kernel_rfl

/-- Has t come up among the first k? -/
def seenB (π : Nat → Nat) (k t : Nat) : Bool := (List.range k).any fun j => π j == t

theorem seenB_zero (π : Nat → Nat) (t : Nat) : seenB π 0 t = false := rfl
theorem seenB_succ (π : Nat → Nat) (k t : Nat) : seenB π (k + 1) t = (seenB π k t || π k == t) := by
  unfold seenB; rw [List.range_succ, List.any_append]; simp
theorem seenB_new {n : Nat} {π : Nat → Nat} (inj : ∀ i j, i < n → j < n → π i = π j → i = j) (k : Nat) (hk : k < n) : seenB π k (π k) = false := by
  unfold seenB
  rw [List.any_eq_false]
  intro j hj
  have hj' := List.mem_range.1 hj
  simp only [beq_iff_eq]
  exact fun e => by have := inj j k (by omega) hk e; omega

theorem ErrList.of_kept {w w' : World} {L n S : Nat} {E : Nat → Nat} {r : Nat → Zk} (h : ErrList w L n E r) (hL : L < S) (hE : ∀ i, i < n → E i < S) (hS : S ≤ w.heap.size)
    (hk : ∀ b, b < S → w'.heap[b]? = w.heap[b]?) (hs : w.heap.size ≤ w'.heap.size) : ErrList w' L n E r :=
  have hc : ∀ b o, b < S → w'.cell? ⟨b, o, none⟩ = w.cell? ⟨b, o, none⟩ := fun b o hb => World.cell?_of_block (w := w) (hk b hb)
  ⟨fun i hi => (hc L i hL).trans (h.cell i hi), fun i hi => (World.frozen?_of_block (w := w) (a := ⟨L, i, none⟩) (hk L hL)).trans (h.free i hi), fun i hi => (h.holds i hi).of_cells fun o => hc _ _ (hE i hi), h.apart, by omega⟩

set_option maxHeartbeats 1600000 in
theorem law5_any (a : Option Addr) (n cap : Nat) (z : Nat → Zk) (w : World) (hn : n ≤ maxLen) (hx : XsAt w a n z) (hs : Sizes n z) :
    Calls Egbg.prog 5 #[.slice a n cap] w fun e w' => e = .returned (.bool true) ∧ Below w.heap.size w w' := by
  have h16 := bytes16_any a n cap z w hn hx hs
  have h11 := bytes11_any a n cap z w hn hx
  clear hs
  by_cases hbig : 4096 < n
  · go_enter Egbg.func5, Egbg.ntmps5
    go_wp2_with fail
    refine h16.mono ?_
    rintro e w' ⟨⟨b, rfl⟩, hw⟩
    rw [hw]; clear hw w'
    go_wp2_with fail
    · go_ret
      exact ⟨rfl, Below.refl _ _⟩
    refine h11.mono ?_
    rintro e w' ⟨⟨t, rfl⟩, q, rfl⟩
    go_wp2_with fail
    · go_ret
      exact ⟨rfl, below_drewN (Below.refl _ _) q⟩
    · go_ret
      exact ⟨rfl, below_drewN (Below.refl _ _) q⟩
  · have hn4 : n ≤ 4096 := by omega
    have hb4 : decide ((4096 : Int) < (n : Int)) = false := by simp; omega
    have hnn : ((n : Int) != (n : Int)) = false := by simp
    clear hn hbig
    have hmk := run_make_row' (P := Egbg.prog) 38 4 (.bool false) 1 Egbg.underlying38 Egbg.info4 rfl .i64 .i64 n (by omega) (by omega)
    go_enter Egbg.func5, Egbg.ntmps5
    go_wp2_with fail
    refine h16.mono ?_
    rintro e w' ⟨⟨b, rfl⟩, hw⟩
    rw [hw]; clear hw w' h16
    go_wp2_with fail
    · go_ret
      exact ⟨rfl, Below.refl _ _⟩
    refine h11.mono ?_
    rintro e w' ⟨⟨t, rfl⟩, q, rfl⟩
    clear h11
    go_wp2_with fail
    · go_ret
      exact ⟨rfl, below_drewN (Below.refl _ _) q⟩
    refine (buildTagged_any a n cap z _ hn4 (by exact hx)).mono ?_
    rintro e w1 ⟨rfl, hb1, hl1⟩
    have hbel1 : Below w.heap.size w w1 := (below_drewN (Below.refl _ _) q).trans hb1
    have HL1 : ErrList w1 w.heap.size n (fun i => w.heap.size + 1 + i) (fun i => tag (z i) i) := hl1
    clear hb1 hl1
    go_wp2_with fail
    refine (sort_any HL1 n (by omega)).mono ?_
    rintro e w2 ⟨rfl, π, hS⟩
    have hbel2 : Below w.heap.size w w2 := hbel1.trans (hS.kept.below (Nat.le_refl _) hbel1.size)
    have hlt := hS.lt
    have hinj := hS.inj
    have hasc := hS.asc
    have hl2 := hS.list
    clear hS HL1 hbel1 w1
    obtain ⟨E, hE⟩ : ∃ E : Nat → Nat, E = fun i => w.heap.size + 1 + π i := ⟨_, rfl⟩
    obtain ⟨r, hr⟩ : ∃ r : Nat → Zk, r = fun i => tag (z (π i)) (π i) := ⟨_, rfl⟩
    have hl3 : ErrList w2 w.heap.size n E r := by rw [hE, hr]; exact hl2
    have HR : ∀ i, r i = tag (z (π i)) (π i) := fun i => by rw [hr]
    have HRR : Hid (∀ i, r i = tag (z (π i)) (π i)) := HR
    have hasc' : Hid (∀ i j, i < j → j < n → lessZ (r j) (r i) = false) := fun i j hij hj => by rw [hr]; exact hasc i j hij hj
    clear hl2 hE hr HR hasc
    have HI : Hid (∀ i j, i < n → j < n → π i = π j → i = j) := hinj
    clear hinj
    go_wp2_with fail
    clear hmk hnn
    have hLS : w.heap.size < w2.heap.size := hl3.row
    have hES : ∀ i, i < n → E i < w2.heap.size := fun i hi => (hl3.holds i hi).lt
    obtain ⟨S, hSz⟩ : ∃ S, S = w2.heap.size := ⟨_, rfl⟩
    have hrow0 : (w2.alloc (.cells (madeCells #[.bool false] n) 4)).rowIs S 4 n (fun t => .bool (seenB π 0 t)) := by rw [hSz]; exact World.rowIs_made w2 (.bool false) n 4
    have hbel3 : Below w.heap.size w (w2.alloc (.cells (madeCells #[.bool false] n) 4)) := hbel2.alloc (by omega) _
    have hl4 : ErrList (w2.alloc (.cells (madeCells #[.bool false] n) 4)) w.heap.size n E r := hl3.of_kept hLS hES (Nat.le_refl _) (fun b hb => Below.heap_alloc _ _ _ hb) (by simp)
    have hsz4 : S < (w2.alloc (.cells (madeCells #[.bool false] n) 4)).heap.size := by rw [hSz]; simp
    rw [← hSz] at hLS hES ⊢
    clear hl3 hbel2
    generalize w2.alloc (.cells (madeCells #[.bool false] n) 4) = w3 at *
    clear hSz w2
    go_loopw [6] (fun vi wr => ∃ k : Nat, vi = .int .i64 k ∧ k ≤ n ∧ Below w.heap.size w wr ∧ ErrList wr w.heap.size n E r ∧ wr.rowIs S 4 n (fun t => .bool (seenB π k t)) ∧ S < wr.heap.size) (fun vi _ => n - (intOf vi).toNat)
    case atStart => exact ⟨0, rfl, by omega, hbel3, hl4, hrow0, hsz4⟩
    case round =>
      clear hrow0 hbel3 hl4 hsz4 w3
      obtain ⟨k, rfl, hk, hbel, hel, hrow, hSw⟩ := hrel
      by_cases hkn : k < n
      · obtain ⟨p, hp⟩ : ∃ p, p = π k := ⟨_, rfl⟩
        have hpn : p < n := by rw [hp]; exact hlt k hkn
        have hpn' : (p : Int) < (n : Int) := by omega
        obtain ⟨e, he⟩ : ∃ e, e = E k := ⟨_, rfl⟩
        have heS : e < S := by rw [he]; exact hES k hkn
        have hck : wr.cell? ⟨w.heap.size, k, none⟩ = some (.pointer (some ⟨e, 0, none⟩)) := by rw [he]; exact hel.cell k hkn
        have hzk : ZAt wr e 0 (tag (z p) p) := by rw [he, hp, ← HRR.out k]; exact hel.holds k hkn
        have hcs : wr.cell? ⟨S, p, none⟩ = some (.bool false) := by rw [hrow.cell hpn]; show some (Value.bool (seenB π k p)) = _; rw [hp, seenB_new HI.out k hkn]
        have hfs : wr.frozen? ⟨S, p, none⟩ = false := hrow.frozen p
        obtain ⟨b, off, rfl, hzx⟩ := hx p hpn
        have hbS : S ≠ b := by have := hzx.lt; omega
        have hzx' := hzx.below hbel hzx.lt
        have hek : ¬ S = e := by omega
        have hLS' : ¬ S = w.heap.size := by omega
        have HP : Hid (p = π k) := hp
        have HE : Hid (e = E k) := he
        clear hp he hzx
        obtain ⟨i0, i1, i2, i3, i4⟩ := hzk
        obtain ⟨x0, x1, x2, x3, x4⟩ := hzx'
        simp only [tag, Nat.zero_add] at i0 i1 i2 i3 i4
        go_wp2_with fail
        have hbel' : Below w.heap.size w (wr.setCell ⟨S, p, none⟩ (.bool true)) := hbel.setCell (by simp; omega) _
        have hel' : ErrList (wr.setCell ⟨S, p, none⟩ (.bool true)) w.heap.size n E r := hel.of_kept hLS hES (by omega) (fun b hb => Below.heap_setCell _ _ _ _ (by simp; omega)) (by simp)
        have hrow' : (wr.setCell ⟨S, p, none⟩ (.bool true)).rowIs S 4 n (fun t => .bool (seenB π (k + 1) t)) := (hrow.set p (.bool true)).congr fun j _ => by
          by_cases hj : j = p
          · rw [if_pos hj, seenB_succ, hj, ← HP.out]; simp
          · rw [if_neg hj, seenB_succ, ← HP.out, beq_eq_false_iff_ne.2 (fun h => hj h.symm), Bool.or_false]
        have hSw' : S < (wr.setCell ⟨S, p, none⟩ (.bool true)).heap.size := by simp; exact hSw
        have hck' : (wr.setCell ⟨S, p, none⟩ (.bool true)).cell? ⟨w.heap.size, k, none⟩ = some (.pointer (some ⟨e, 0, none⟩)) := by rw [HE.out]; exact hel'.cell k hkn
        have hz' : ZAt (wr.setCell ⟨S, p, none⟩ (.bool true)) e 0 (tag (z p) p) := by have h := hel'.holds k hkn; rw [HRR.out k, ← HP.out, ← HE.out] at h; exact h
        obtain ⟨b', off', hbo, hzx⟩ := hx p hpn
        simp only [Option.some.injEq, Addr.mk.injEq, and_true] at hbo
        obtain ⟨rfl, rfl⟩ := hbo
        have hzx2 := hzx.below hbel' hzx.lt
        clear i0 i1 i2 i3 i4 x0 x1 x2 x3 x4 hzx hck hcs hfs hbel hel hrow hSw
        generalize wr.setCell ⟨S, p, none⟩ (.bool true) = wq at *
        obtain ⟨i0, i1, i2, i3, i4⟩ := hz'
        obtain ⟨x0, x1, x2, x3, x4⟩ := hzx2
        simp only [tag, Nat.zero_add] at i0 i1 i2 i3 i4
        have h15 := fun W h => keyOf_any e (tag (z p) p) W h
        have h9 := fun W => sameKey_any (tag (z p) p) (z p) W
        have hsame : sameZ (tag (z p) p) (z p) = true := by simp [sameZ, tag]
        rw [hsame] at h9
        unfold zval zcells tag at h15 h9
        dsimp only at h15 h9
        clear hsame
        go_cut [68] (fun s68 wx => s68 = .bool false ∧ Below w.heap.size w wx ∧ ErrList wx w.heap.size n E r ∧ wx.rowIs S 4 n (fun t => .bool (seenB π (k + 1) t)) ∧ S < wx.heap.size)
        case first =>
          go_region_held3 (fun w' => w'.cell? ⟨w.heap.size, k, none⟩ = some (.pointer (some ⟨e, 0, none⟩)) ∧ w'.cell? ⟨b, off + p * 5, none⟩ = some (.string (z p).fn) ∧ w'.cell? ⟨b, off + p * 5 + 1, none⟩ = some (.int .i64 (z p).off) ∧ w'.cell? ⟨b, off + p * 5 + 2, none⟩ = some (.int .i64 (z p).line) ∧ w'.cell? ⟨b, off + p * 5 + 3, none⟩ = some (.int .i64 (z p).col) ∧ w'.cell? ⟨b, off + p * 5 + 4, none⟩ = some (.string (z p).msg))
            (first | (go_keep; done) | (refine ⟨?_, ?_, ?_, ?_, ?_, ?_⟩ <;> refine cell_later (w := wq) ?_ (by assumption) <;> (repeat (first | exact Below.refl _ _ | apply Below.drew | (refine Below.alloc ?_ (by simp <;> omega) _)))))
            (first
              | (go_at_call 15; refine (h15 _ ?_).mono ?_; (simp [ZAt, *]); rintro e w' ⟨rfl, rfl⟩)
              | (go_at_call 9; refine (h9 _).mono ?_; rintro e w' ⟨rfl, rfl⟩))
          go_wp2_with fail
          go_meet
          case rel =>
            have hq : ∀ x y v, Below wq.heap.size wq (((wq.alloc x).alloc y).alloc v).drew.drew := fun x y v => (((((Below.refl _ _).alloc (Nat.le_refl _) _).alloc (by simp) _).alloc (by simp; omega) _).drew).drew
            exact ⟨rfl, hbel'.trans ((hq _ _ _).mono hbel'.size), hel'.of_kept hLS hES (by omega) (fun b hb => (hq _ _ _).block b (by omega)) (hq _ _ _).size, (((hrow'.alloc _).alloc _).alloc _).drew.drew, Nat.lt_of_lt_of_le hSw' (hq _ _ _).size⟩
        case rest =>
          clear i0 i1 i2 i3 i4 x0 x1 x2 x3 x4 hck' hbel' hel' hrow' hSw' h15 h9
          obtain ⟨rfl, hbel, hel, hrow, hSw⟩ := hcut
          by_cases hk0 : k = 0
          · have hg : decide ((0 : Int) < (k : Int)) = false := by simp; omega
            go_wp2_with fail
            go_roundw
            case rel => exact ⟨k + 1, by go_num, by omega, hbel, hel, hrow, hSw⟩
            case measure => simp [intOf]; omega
          · have hg : (0 : Int) < (k : Int) := by omega
            have hl := less_any w.heap.size 0 n n wc k (k - 1) hkn (by omega) (by omega) (E k) (E (k - 1)) (r k) (r (k - 1)) (by rw [Nat.zero_add]; exact hel.cell k hkn) (by rw [Nat.zero_add]; exact hel.cell (k - 1) (by omega)) (hel.holds k hkn) (hel.holds (k - 1) (by omega))
            rw [hasc'.out (k - 1) k (by omega) hkn, show ((k - 1 : Nat) : Int) = (k : Int) - 1 by omega] at hl
            go_wp2_with fail
            refine hl.mono ?_
            rintro e w' ⟨rfl, q2, rfl⟩
            go_wp2_with fail
            go_roundw
            case rel => exact ⟨k + 1, by go_num, by omega, below_drewN hbel q2, ⟨hel.cell, hel.free, hel.holds, hel.apart, hel.row⟩, hrow, hSw⟩
            case measure => simp [intOf]; omega
      · go_wp2_with fail
        go_ret
        exact ⟨rfl, hbel⟩

end Go.Proofs.Yoegbw
