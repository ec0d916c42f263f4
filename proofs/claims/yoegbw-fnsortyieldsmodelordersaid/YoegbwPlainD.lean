/-
  THE PLAIN PART OF STATEMENT 3: the three-way comparison of keys; the insertion sort's invariant; two ascending arrangements of the same records bear the same key at each place.
-/
import Derived.Test.YoegbwPlain
namespace Go.Proofs.Yoegbw

/-! ### The comparisons -/
def cmpS (a b : ByteArray) : Int := if Op.bytesLess a.toList b.toList then -1 else if Op.bytesLess b.toList a.toList then 1 else 0
def cmpI (a b : Int) : Int := if a < b then -1 else if b < a then 1 else 0
def cmpZ (x y : Zk) : Int :=
  if cmpS x.fn y.fn != 0 then cmpS x.fn y.fn else if cmpI x.line y.line != 0 then cmpI x.line y.line else if cmpI x.col y.col != 0 then cmpI x.col y.col else cmpS x.msg y.msg

theorem cmpS_pos (a b : ByteArray) : 0 < cmpS a b ↔ Op.bytesLess b.toList a.toList = true := by
  unfold cmpS
  cases h : Op.bytesLess a.toList b.toList with
  | true => simp [bl_asymm h]
  | false => cases h2 : Op.bytesLess b.toList a.toList <;> simp
theorem cmpS_zero (a b : ByteArray) : cmpS a b = 0 ↔ a.toList = b.toList := by
  unfold cmpS
  cases h : Op.bytesLess a.toList b.toList with
  | true =>
    simp only [if_true]
    constructor
    · intro h0; omega
    · intro e; rw [e, bl_irrefl] at h; exact absurd h (by decide)
  | false =>
    cases h2 : Op.bytesLess b.toList a.toList with
    | true =>
      simp
      intro e; rw [e, bl_irrefl] at h2; exact absurd h2 (by decide)
    | false => simp; exact bl_tri _ _ h h2
theorem cmpI_pos (a b : Int) : 0 < cmpI a b ↔ b < a := by
  unfold cmpI
  by_cases h : a < b
  · rw [if_pos h]; omega
  · rw [if_neg h]
    by_cases h2 : b < a
    · rw [if_pos h2]; omega
    · rw [if_neg h2]; omega
theorem cmpI_zero (a b : Int) : cmpI a b = 0 ↔ a = b := by
  unfold cmpI
  by_cases h : a < b
  · rw [if_pos h]; omega
  · rw [if_neg h]
    by_cases h2 : b < a
    · rw [if_pos h2]; omega
    · rw [if_neg h2]; omega

theorem cmpZ_pos (x y : Zk) : 0 < cmpZ x y ↔ lessZ y x = true := by
  rw [lessZ_iff]
  unfold cmpZ
  by_cases h1 : cmpS x.fn y.fn = 0
  · have e1 := (cmpS_zero _ _).1 h1
    rw [if_neg (by simpa using h1)]
    have n1 : ¬ Op.bytesLess y.fn.toList x.fn.toList = true := by rw [e1, bl_irrefl]; decide
    by_cases h2 : cmpI x.line y.line = 0
    · have e2 := (cmpI_zero _ _).1 h2
      rw [if_neg (by simpa using h2)]
      by_cases h3 : cmpI x.col y.col = 0
      · have e3 := (cmpI_zero _ _).1 h3
        rw [if_neg (by simpa using h3), cmpS_pos]
        constructor
        · exact fun h => Or.inr ⟨e1.symm, Or.inr ⟨e2.symm, Or.inr ⟨e3.symm, h⟩⟩⟩
        · rintro (h | ⟨_, h | ⟨_, h | ⟨_, h⟩⟩⟩)
          · exact absurd h n1
          · omega
          · omega
          · exact h
      · have e3 : ¬ x.col = y.col := fun e => h3 ((cmpI_zero _ _).2 e)
        rw [if_pos (by simpa using h3), cmpI_pos]
        constructor
        · exact fun h => Or.inr ⟨e1.symm, Or.inr ⟨e2.symm, Or.inl h⟩⟩
        · rintro (h | ⟨_, h | ⟨_, h | ⟨h, _⟩⟩⟩)
          · exact absurd h n1
          · omega
          · exact h
          · exact absurd h.symm e3
    · have e2 : ¬ x.line = y.line := fun e => h2 ((cmpI_zero _ _).2 e)
      rw [if_pos (by simpa using h2), cmpI_pos]
      constructor
      · exact fun h => Or.inr ⟨e1.symm, Or.inl h⟩
      · rintro (h | ⟨_, h | ⟨h, _⟩⟩)
        · exact absurd h n1
        · exact h
        · exact absurd h.symm e2
  · have e1 : ¬ x.fn.toList = y.fn.toList := fun e => h1 ((cmpS_zero _ _).2 e)
    rw [if_pos (by simpa using h1), cmpS_pos]
    constructor
    · exact fun h => Or.inl h
    · rintro (h | ⟨h, _⟩)
      · exact h
      · exact absurd h.symm e1

/-! ### The bytes of two strings, one by one -/
theorem bl_first : ∀ (k : Nat) (x y : List UInt8) (a b : UInt8), x[k]? = some a → y[k]? = some b → x.take k = y.take k → a < b → Op.bytesLess x y = true
  | 0, _ :: _, _ :: _, a, b => fun hx hy _ h => by
    simp only [List.getElem?_cons_zero, Option.some.injEq] at hx hy
    subst hx hy
    simp [Op.bytesLess, h]
  | k + 1, c :: x, d :: y, a, b => fun hx hy ht h => by
    simp only [List.take_succ_cons, List.cons.injEq] at ht
    simp only [List.getElem?_cons_succ] at hx hy
    simp [Op.bytesLess, ht.1, bl_first k x y a b hx hy ht.2 h]
  | _, [], _, _, _ => fun hx _ _ _ => by simp at hx
  | _, _ :: _, [], _, _ => fun _ hy _ _ => by simp at hy

theorem bl_prefix : ∀ (x y : List UInt8), x = y.take x.length → x.length < y.length → Op.bytesLess x y = true
  | [], [], _, h => by simp at h
  | [], _ :: _, _, _ => by simp [Op.bytesLess]
  | a :: x, [], _, h => by simp at h
  | a :: x, b :: y, e, h => by
    simp only [List.length_cons, List.take_succ_cons, List.cons.injEq] at e
    simp only [List.length_cons, Nat.add_lt_add_iff_right] at h
    simp [Op.bytesLess, e.1, bl_prefix x y e.2 h]

/-! ### The insertion sort -/
/-- y, the places j and j - 1 exchanged. -/
def swapF {α : Type} (y : Nat → α) (j : Nat) : Nat → α := fun i => if i = j then y (j - 1) else if i = j - 1 then y j else y i

/-- The first i + 1 places ascend, but that the one at place j may be less than those ahead of it. -/
def Ins (y : Nat → Zk) (i j : Nat) : Prop := ∀ p q, p < q → q ≤ i → q ≠ j → lessZ (y q) (y p) = false
/-- The first i places ascend. -/
def Asc (y : Nat → Zk) (i : Nat) : Prop := ∀ p q, p < q → q < i → lessZ (y q) (y p) = false

theorem Ins.start {y : Nat → Zk} {i : Nat} (h : Asc y i) : Ins y i i := fun p q hpq hq hne => h p q hpq (by omega)
theorem Ins.ended {y : Nat → Zk} {i j : Nat} (h : Ins y i j) (hj : j = 0 ∨ lessZ (y j) (y (j - 1)) = false) : Asc y (i + 1) := fun p q hpq hq => by
  by_cases e : q = j
  · subst e
    rcases hj with h0 | hj
    · omega
    · by_cases e2 : p = q - 1
      · subst e2; exact hj
      · exact lessZ_ntrans _ _ _ hj (h p (q - 1) (by omega) (by omega) (by omega))
  · exact h p q hpq (by omega) e
theorem Ins.step {y : Nat → Zk} {i j : Nat} (h : Ins y i j) (h0 : 0 < j) (hji : j ≤ i) (hl : lessZ (y j) (y (j - 1)) = true) : Ins (swapF y j) i (j - 1) := fun p q hpq hq hne => by
  unfold swapF
  by_cases e : q = j
  · subst e
    rw [if_pos rfl, if_neg (by omega)]
    by_cases e2 : p = q - 1
    · rw [if_pos e2]; exact lessZ_asymm hl
    · rw [if_neg e2]; exact h p (q - 1) (by omega) (by omega) (by omega)
  · rw [if_neg e, if_neg hne]
    by_cases e2 : p = j
    · subst e2
      rw [if_pos rfl]
      exact h (p - 1) q (by omega) hq (by omega)
    · rw [if_neg e2]
      by_cases e3 : p = j - 1
      · rw [if_pos e3]
        exact h j q (by omega) hq e
      · rw [if_neg e3]
        exact h p q hpq hq e

/-- σ: an arrangement of the numbers below n. -/
structure Arr (n : Nat) (σ : Nat → Nat) : Prop where
  lt : ∀ i, i < n → σ i < n
  inj : ∀ i j, i < n → j < n → σ i = σ j → i = j
theorem Arr.id (n : Nat) : Arr n (fun i => i) := ⟨fun _ h => h, fun _ _ _ _ h => h⟩
theorem Arr.swap {n : Nat} {σ : Nat → Nat} (h : Arr n σ) (j : Nat) (h0 : 0 < j) (hj : j < n) : Arr n (swapF σ j) where
  lt := fun i hi => by
    unfold swapF
    by_cases e : i = j
    · rw [if_pos e]; exact h.lt _ (by omega)
    · rw [if_neg e]
      by_cases e2 : i = j - 1
      · rw [if_pos e2]; exact h.lt _ hj
      · rw [if_neg e2]; exact h.lt _ hi
  inj := fun a b ha hb e => by
    unfold swapF at e
    by_cases a1 : a = j
    · rw [if_pos a1] at e
      by_cases b1 : b = j
      · omega
      · rw [if_neg b1] at e
        by_cases b2 : b = j - 1
        · rw [if_pos b2] at e
          have := h.inj _ _ (by omega) hj e
          omega
        · rw [if_neg b2] at e
          have := h.inj _ _ (by omega) hb e
          omega
    · rw [if_neg a1] at e
      by_cases a2 : a = j - 1
      · rw [if_pos a2] at e
        by_cases b1 : b = j
        · rw [if_pos b1] at e
          have := h.inj _ _ hj (by omega) e
          omega
        · rw [if_neg b1] at e
          by_cases b2 : b = j - 1
          · omega
          · rw [if_neg b2] at e
            have := h.inj _ _ hj hb e
            omega
      · rw [if_neg a2] at e
        by_cases b1 : b = j
        · rw [if_pos b1] at e
          have := h.inj _ _ ha (by omega) e
          omega
        · rw [if_neg b1] at e
          by_cases b2 : b = j - 1
          · rw [if_pos b2] at e
            have := h.inj _ _ ha hj e
            omega
          · rw [if_neg b2] at e
            exact h.inj _ _ ha hb e
theorem swapF_comp {α : Type} (z : Nat → α) (σ : Nat → Nat) (j : Nat) : (fun i => z (swapF σ j i)) = swapF (fun i => z (σ i)) j := by
  funext i
  unfold swapF
  by_cases e : i = j
  · rw [if_pos e, if_pos e]
  · rw [if_neg e, if_neg e]
    by_cases e2 : i = j - 1
    · rw [if_pos e2, if_pos e2]
    · rw [if_neg e2, if_neg e2]

/-! ### Two ascending arrangements of the same records -/
theorem nodup_lt_length : ∀ (n : Nat) (l : List Nat), l.Nodup → (∀ x ∈ l, x < n) → l.length ≤ n
  | 0, [], _, _ => Nat.le_refl _
  | 0, x :: _, _, h => absurd (h x (List.mem_cons_self ..)) (Nat.not_lt_zero _)
  | n + 1, l, hd, h => by
    have h1 := nodup_lt_length n (l.erase n) (hd.erase n) (fun x hx => by
      have hx' := (List.Nodup.mem_erase_iff hd).1 hx
      have := h x hx'.2
      have := hx'.1
      omega)
    have h2 := List.length_erase_le (a := n) (l := l)
    have h3 : l.length ≤ (l.erase n).length + 1 := by
      by_cases hm : n ∈ l
      · rw [List.length_erase_of_mem hm]; omega
      · rw [List.erase_of_not_mem hm]; omega
    omega

/-- Among the first i + 1 of one arrangement and the last n - i of another there is a common number. -/
theorem Arr.meet {n : Nat} {π σ : Nat → Nat} (hp : Arr n π) (hs : Arr n σ) (i : Nat) (hi : i < n) : ∃ p q, p ≤ i ∧ i ≤ q ∧ q < n ∧ π p = σ q := by
  cases Classical.em (∃ p q, p ≤ i ∧ i ≤ q ∧ q < n ∧ π p = σ q) with
  | inl h => exact h
  | inr h =>
    exfalso
    have hno : ∀ p q, p ≤ i → i ≤ q → q < n → π p ≠ σ q := fun p q h1 h2 h3 e => h ⟨p, q, h1, h2, h3, e⟩
    have hd : ((List.range (i + 1)).map π ++ (List.range' i (n - i)).map σ).Nodup := by
      rw [List.nodup_append]
      refine ⟨?_, ?_, ?_⟩
      · rw [List.Nodup, List.pairwise_map]
        refine List.Pairwise.imp_of_mem ?_ (List.nodup_range (n := i + 1))
        intro a b ha hb hab e
        exact hab (hp.inj a b (by have := List.mem_range.1 ha; omega) (by have := List.mem_range.1 hb; omega) e)
      · rw [List.Nodup, List.pairwise_map]
        refine List.Pairwise.imp_of_mem ?_ (List.nodup_range' (s := i) (n := n - i) (step := 1))
        intro a b ha hb hab e
        have ha' := List.mem_range'_1.1 ha
        have hb' := List.mem_range'_1.1 hb
        exact hab (hs.inj a b (by omega) (by omega) e)
      · intro a ha b hb
        obtain ⟨p, hp1, rfl⟩ := List.mem_map.1 ha
        obtain ⟨q, hq1, rfl⟩ := List.mem_map.1 hb
        have hp2 := List.mem_range.1 hp1
        have hq2 := List.mem_range'_1.1 hq1
        exact hno p q (by omega) (by omega) (by omega)
    have hl := nodup_lt_length n _ hd (fun x hx => by
      rcases List.mem_append.1 hx with hx | hx
      · obtain ⟨p, hp1, rfl⟩ := List.mem_map.1 hx
        have hp2 := List.mem_range.1 hp1
        exact hp.lt p (by omega)
      · obtain ⟨q, hq1, rfl⟩ := List.mem_map.1 hx
        have hq2 := List.mem_range'_1.1 hq1
        exact hs.lt q (by omega))
    simp at hl
    omega

theorem not_less_of_asc {n : Nat} {z : Nat → Zk} {π σ : Nat → Nat} (hp : Arr n π) (hs : Arr n σ) (ap : Asc (fun i => z (π i)) n) (as : Asc (fun i => z (σ i)) n) (i : Nat) (hi : i < n) : lessZ (z (π i)) (z (σ i)) = false := by
  obtain ⟨p, q, h1, h2, h3, e⟩ := hp.meet hs i hi
  have g1 : lessZ (z (π i)) (z (π p)) = false := by
    by_cases e1 : p = i
    · rw [e1]; exact lessZ_irrefl _
    · exact ap p i (by omega) hi
  have g2 : lessZ (z (σ q)) (z (σ i)) = false := by
    by_cases e1 : q = i
    · rw [e1]; exact lessZ_irrefl _
    · exact as i q (by omega) h3
  rw [← e] at g2
  exact lessZ_ntrans _ _ _ g1 g2

theorem same_of_asc {n : Nat} {z : Nat → Zk} {π σ : Nat → Nat} (hp : Arr n π) (hs : Arr n σ) (ap : Asc (fun i => z (π i)) n) (as : Asc (fun i => z (σ i)) n) (i : Nat) (hi : i < n) : sameZ (z (π i)) (z (σ i)) = true :=
  sameZ_of_not (not_less_of_asc hp hs ap as i hi) (not_less_of_asc hs hp as ap i hi)

end Go.Proofs.Yoegbw
