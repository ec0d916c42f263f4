/-
  '(ErrorList).Sort' BY CONTRACT: over the shelf's contract of sort.Sort ('Any.sort_Sort_sorted', 'Any.sort_Sort_tiny'). What is paid here: that the three methods are reached, and their walks.
-/
import Derived.Test.YoegbwWalkA
import Derived.Test.YoegbwShelf
import Derived.RegionTactic
namespace Go.Proofs.Yoegbw
open Go.RowKit Go.Shelf

theorem len_reached (p : Option Addr) (n c : Nat) : Reaches Egbg.prog 28 (.slice p n c) "Len" 57 := ⟨fun _ => by kernel_rfl, enters_of Egbg.func57 (by kernel_rfl) rfl⟩
theorem less_reached (p : Option Addr) (n c : Nat) : Reaches Egbg.prog 28 (.slice p n c) "Less" 8 := ⟨fun _ => by kernel_rfl, enters_of Egbg.func8 (by kernel_rfl) rfl⟩
theorem swap_reached (p : Option Addr) (n c : Nat) : Reaches Egbg.prog 28 (.slice p n c) "Swap" 58 := ⟨fun _ => by kernel_rfl, enters_of Egbg.func58 (by kernel_rfl) rfl⟩

theorem len_any (p : Option Addr) (n c : Nat) (W : World) : LenM Egbg.prog 57 (.slice p n c) n W := by
  unfold LenM
  go_enter Egbg.func57, Egbg.ntmps57
  go_wp2
  go_ret
  exact ⟨rfl, 0, rfl⟩

set_option maxHeartbeats 2000000 in
theorem swap_any (blk off c size : Nat) (W : World) (x y : Nat) (i j : Nat) (hi : i < size) (hj : j < size) (_hsz : size < 4611686018427387904)
    (ci : W.cell? ⟨blk, off + i, none⟩ = some (.pointer (some ⟨x, 0, none⟩))) (cj : W.cell? ⟨blk, off + j, none⟩ = some (.pointer (some ⟨y, 0, none⟩))) (fi : W.frozen? ⟨blk, off + i, none⟩ = false) (fj : W.frozen? ⟨blk, off + j, none⟩ = false) :
    Calls Egbg.prog 58 #[.slice (some ⟨blk, off, none⟩) size c, .int .i64 i, .int .i64 j] W fun e w' => e = .returned (.tuple #[]) ∧ ∃ q, w' = ((W.setCell ⟨blk, off + i, none⟩ (.pointer (some ⟨y, 0, none⟩))).setCell ⟨blk, off + j, none⟩ (.pointer (some ⟨x, 0, none⟩))).drewN q := by
  obtain ⟨v', hy'⟩ := cell?_setCell_some (w := W) (p := ⟨blk, off + i, none⟩) (x := .pointer (some ⟨y, 0, none⟩)) (q := ⟨blk, off + j, none⟩) cj
  go_enter Egbg.func58, Egbg.ntmps58
  go_wp2
  go_region
  all_goals (try go_wp2)
  all_goals go_end0
  all_goals exact ⟨rfl, 1, rfl⟩

/-- The list of errors: n pointers in block L, the i-th to block E i, which holds the record r i. -/
structure ErrList (w : World) (L n : Nat) (E : Nat → Nat) (r : Nat → Zk) : Prop where
  cell : ∀ i, i < n → w.cell? ⟨L, i, none⟩ = some (.pointer (some ⟨E i, 0, none⟩))
  free : ∀ i, i < n → w.frozen? ⟨L, i, none⟩ = false
  holds : ∀ i, i < n → ZAt w (E i) 0 (r i)
  apart : ∀ i, i < n → E i ≠ L
  row : L < w.heap.size

/-- All blocks that were there, but L, are as they were. -/
structure Kept (L : Nat) (w w' : World) : Prop where
  os : w'.os = w.os
  tape : w'.tape = w.tape
  output : w'.output = w.output
  size : w.heap.size ≤ w'.heap.size
  block : ∀ k, k < w.heap.size → k ≠ L → w'.heap[k]? = w.heap[k]?

theorem Kept.below {L B : Nat} {w w' : World} (h : Kept L w w') (hB : B ≤ L) (hs : B ≤ w.heap.size) : Below B w w' := ⟨h.os, h.tape, h.output, h.size, fun k hk => h.block k (by omega) (by omega)⟩
theorem Kept.cell {L : Nat} {w w' : World} (h : Kept L w w') (b o : Nat) (hb : b < w.heap.size) (hL : b ≠ L) : w'.cell? ⟨b, o, none⟩ = w.cell? ⟨b, o, none⟩ := World.cell?_of_block (w := w) (h.block b hb hL)
theorem Kept.zat {L : Nat} {w w' : World} (h : Kept L w w') {b o : Nat} {z : Zk} (hz : ZAt w b o z) (hL : b ≠ L) : ZAt w' b o z := hz.of_cells fun _ => h.cell b _ hz.lt hL

def encE (E : Nat → Nat) (n : Nat) (i : Nat) : Value := .pointer (some ⟨E (i % n), 0, none⟩)
def ltE (r : Nat → Zk) (n : Nat) (i j : Nat) : Bool := lessZ (r (i % n)) (r (j % n))

theorem swo_ltE (r : Nat → Zk) (n : Nat) : Go.Sort.SWO (ltE r n) where
  irrefl _ := lessZ_irrefl _
  trans _ _ _ := lessZ_trans _ _ _
  ntrans _ _ _ := lessZ_ntrans _ _ _

theorem sortWorld_cell (enc : Nat → Value) (w : World) (L m : Nat) (dk : Array Nat) (os : Array Obj) (b o : Nat) (hb : b < w.heap.size) (hL : b ≠ L) :
    (sortWorld enc w L 0 m dk os).cell? ⟨b, o, none⟩ = w.cell? ⟨b, o, none⟩ := by
  unfold sortWorld
  rw [Go.Sort.cell?_grow _ _ _ (by simpa using hb), Go.Sort.cell?_putRow_other _ _ _ _ _ _ (Or.inl hL)]
  rfl

theorem range_get (n i : Nat) (h : i < n) : (Array.range n)[i]! = i := by
  rw [getElem!_pos _ i (by simpa using h)]; simp

theorem ErrList.holdsRow {w : World} {L n : Nat} {E : Nat → Nat} {r : Nat → Zk} (h : ErrList w L n E r) : Go.Sort.Holds (encE E n) w L 0 (Array.range n) := fun i hi => by
  have hi' : i < n := by simpa using hi
  rw [range_get n i hi', Nat.zero_add]
  refine ⟨?_, h.free i hi'⟩
  rw [h.cell i hi']
  unfold encE
  rw [Nat.mod_eq_of_lt hi']

theorem errs_LessM {w : World} {L n : Nat} {E : Nat → Nat} {r : Nat → Zk} (h : ErrList w L n E r) (cap : Nat) (hn : 0 < n) (hsz : n < 4611686018427387904) :
    LessM Egbg.prog 8 (.slice (some ⟨L, 0, none⟩) n cap) (encE E n) (ltE r n) L 0 n w := fun m os dk hs i j hi hj => by
  have hH := holds_sortWorld (encE E n) w L 0 m (Array.range n) dk os h.row h.holdsRow (by simpa using hs)
  have hz : ∀ t, ZAt (sortWorld (encE E n) w L 0 m dk os) (E (t % n)) 0 (r (t % n)) := fun t =>
    have ht := Nat.mod_lt t hn
    (h.holds _ ht).of_cells fun o => sortWorld_cell _ _ _ _ _ _ _ _ (h.holds _ ht).lt (h.apart _ ht)
  exact less_any L 0 cap n _ i j hi hj hsz (E (dk[i]! % n)) (E (dk[j]! % n)) (r (dk[i]! % n)) (r (dk[j]! % n)) (hH i (by omega)).1 (hH j (by omega)).1 (hz _) (hz _)

theorem errs_SwapM (E : Nat → Nat) (L n cap : Nat) (hsz : n < 4611686018427387904) : SwapM Egbg.prog 58 (.slice (some ⟨L, 0, none⟩) n cap) (encE E n) L 0 n := fun W dk hH hs i j hi hj =>
  swap_any L 0 cap n W (E (dk[i]! % n)) (E (dk[j]! % n)) i j hi hj hsz (hH i (by omega)).1 (hH j (by omega)).1 (hH i (by omega)).2 (hH j (by omega)).2

/-! ### What the permutation says -/
theorem perm_range {n : Nat} {d' : Array Nat} (h : Go.Sort.PermIn 0 n (Array.range n) d') : d'.size = n ∧ (∀ i, i < n → d'[i]! < n) ∧ (∀ i j, i < n → j < n → d'[i]! = d'[j]! → i = j) := by
  obtain ⟨hs, _, hp⟩ := h
  have hs' : d'.size = n := by simpa using hs
  have e1 : (d'.extract 0 n).toList = d'.toList := by rw [← hs']; simp
  have e2 : ((Array.range n).extract 0 n).toList = List.range n := by
    have : (Array.range n).extract 0 n = Array.range n := by
      have hh := Array.extract_size (xs := Array.range n)
      rwa [Array.size_range] at hh
    rw [this, Array.toList_range]
  rw [e1, e2] at hp
  have hget : ∀ i (hi : i < n), d'[i]! = d'.toList[i]'(by simpa [hs'] using hi) := fun i hi => by
    rw [getElem!_pos d' i (by omega)]; simp
  refine ⟨hs', fun i hi => ?_, fun i j hi hj e => ?_⟩
  · rw [hget i hi]
    exact List.mem_range.1 (hp.mem_iff.1 (List.getElem_mem _))
  · rw [hget i hi, hget j hj] at e
    exact (List.getElem_inj (hp.nodup_iff.2 List.nodup_range)).1 e

theorem kept_sortWorld (enc : Nat → Value) (w : World) (L m : Nat) (dk : Array Nat) (os : Array Obj) : Kept L w (Go.Sort.grow (Go.Sort.putRow enc (Go.Sort.ahead w m) L 0 dk) os) where
  os := rfl
  tape := rfl
  output := rfl
  size := by simp [Go.Sort.grow, Go.Sort.putRow, Go.Sort.mapBlock, Go.Sort.ahead]
  block := fun k hk hL => by
    rw [Go.Sort.heap_grow_old _ _ (by simpa [Go.Sort.ahead] using hk)]
    simp only [Go.Sort.putRow, Go.Sort.mapBlock, Go.Sort.ahead, Array.getElem?_modify]
    rw [if_neg (fun h => hL h.symm)]

/-- WHAT Sort DOES: the list holds a permutation of the very pointers; sorted; every other block is as it was. -/
structure Sorted (L n : Nat) (E : Nat → Nat) (r : Nat → Zk) (w w' : World) (π : Nat → Nat) : Prop where
  lt : ∀ i, i < n → π i < n
  inj : ∀ i j, i < n → j < n → π i = π j → i = j
  asc : ∀ i j, i < j → j < n → lessZ (r (π j)) (r (π i)) = false
  list : ErrList w' L n (fun i => E (π i)) (fun i => r (π i))
  kept : Kept L w w'

set_option maxHeartbeats 2000000 in
theorem sort_any {w : World} {L n : Nat} {E : Nat → Nat} {r : Nat → Zk} (h : ErrList w L n E r) (cap : Nat) (hsz : n < 4611686018427387904) :
    Calls Egbg.prog 14 #[.slice (some ⟨L, 0, none⟩) n cap] w fun e w' => e = .returned (.tuple #[]) ∧ ∃ π, Sorted L n E r w w' π := by
  by_cases h2 : 2 ≤ n
  · have hS := Any.sort_Sort_sorted Egbg.sl11 28 (.slice (some ⟨L, 0, none⟩) n cap) 57 8 58 (len_reached _ _ _) (less_reached _ _ _) (swap_reached _ _ _) (encE E n) (ltE r n) (swo_ltE r n)
      L 0 (Array.range n) (by simpa using h2) (by simpa using hsz) w (by simpa using len_any _ _ _ _) (by simpa using errs_LessM h cap (by omega) hsz) (by simpa using errs_SwapM E L n cap hsz) h.holdsRow h.row
    change Calls Egbg.prog 20 _ _ _ at hS
    have H : Hid (ErrList w L n E r) := h
    clear h
    go_enter Egbg.func14, Egbg.ntmps14
    go_wp2_with (go_at_call 20; refine hS.mono ?_; rintro e w' ⟨rfl, d', m, os, hP, hSo, rfl⟩)
    go_end0
    have h := H.out
    rw [Array.size_range] at hP hSo
    obtain ⟨hs, hlt, hinj⟩ := perm_range hP
    have hK := kept_sortWorld (encE E n) w L m d' os
    have hH := holds_sortWorld (encE E n) w L 0 m (Array.range n) d' os h.row h.holdsRow (by simpa using hs)
    refine ⟨rfl, fun i => d'[i]!, hlt, hinj, fun i j hij hj => ?_, ⟨fun i hi => ?_, fun i hi => ?_, fun i hi => ?_, fun i hi => ?_, ?_⟩, hK⟩
    · have := hSo i j (Nat.zero_le _) hij hj
      unfold ltE at this
      rwa [Nat.mod_eq_of_lt (hlt i (by omega)), Nat.mod_eq_of_lt (hlt j hj)] at this
    · have := (hH i (by omega)).1
      unfold encE at this
      rw [Nat.mod_eq_of_lt (hlt i hi), Nat.zero_add] at this
      exact this
    · have := (hH i (by omega)).2
      rw [Nat.zero_add] at this
      exact this
    · exact hK.zat (h.holds _ (hlt i hi)) (h.apart _ (hlt i hi))
    · exact h.apart _ (hlt i hi)
    · exact Nat.lt_of_lt_of_le h.row hK.size
  · have hS := Any.sort_Sort_tiny Egbg.sl11 28 (.slice (some ⟨L, 0, none⟩) n cap) 57 (len_reached _ _ _) n (by omega) w (len_any _ _ _ _)
    change Calls Egbg.prog 20 _ _ _ at hS
    have H : Hid (ErrList w L n E r) := h
    clear h
    go_enter Egbg.func14, Egbg.ntmps14
    go_wp2_with (go_at_call 20; refine hS.mono ?_; rintro e w' ⟨rfl, q, rfl⟩)
    go_end0
    have h := H.out
    exact ⟨rfl, fun i => i, fun i hi => hi, fun i j _ _ e => e, fun i j hij hj => by omega, ⟨h.cell, h.free, h.holds, h.apart, h.row⟩, ⟨rfl, rfl, rfl, Nat.le_refl _, fun _ _ _ => rfl⟩⟩

end Go.Proofs.Yoegbw
