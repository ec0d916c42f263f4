/-
  THE PLAIN PART (no Go in sight but the model's own order of strings, 'Op.bytesLess'): an error's key, the order that 'Less' reckons, that it is a strict weak order, and that two keys that are not told apart are the same key.
-/
import GoSem.Op.String
import Derived.Sort.Statements
namespace Go.Proofs.Yoegbw

/-- One record ('ZErr', and an '*Error' as five cells). -/
structure Zk where
  fn : ByteArray
  off : Int
  line : Int
  col : Int
  msg : ByteArray

def Zk.nil : Zk := ⟨ByteArray.empty, 0, 0, 0, ByteArray.empty⟩

/-- What '(ErrorList).Less' reckons. -/
def lessZ (a b : Zk) : Bool :=
  if a.fn.toList == b.fn.toList then (if a.line == b.line then (if a.col == b.col then Op.bytesLess a.msg.toList b.msg.toList else decide (a.col < b.col)) else decide (a.line < b.line)) else Op.bytesLess a.fn.toList b.fn.toList

/-- What 'zzSameKey' reckons. -/
def sameZ (a b : Zk) : Bool := a.fn.toList == b.fn.toList && a.line == b.line && a.col == b.col && a.msg.toList == b.msg.toList

theorem bl_irrefl : ∀ x : List UInt8, Op.bytesLess x x = false
  | [] => rfl
  | a :: x => by
    have h : ¬ a < a := by rw [UInt8.lt_iff_toNat_lt]; omega
    simp [Op.bytesLess, bl_irrefl x, h]

theorem bl_trans : ∀ x y z : List UInt8, Op.bytesLess x y = true → Op.bytesLess y z = true → Op.bytesLess x z = true
  | [], [], [] => fun h _ => h
  | [], _ :: _, [] => fun _ h => by simp [Op.bytesLess] at h
  | [], _, _ :: _ => fun _ _ => by simp [Op.bytesLess]
  | _ :: _, [], _ => fun h _ => by simp [Op.bytesLess] at h
  | _ :: _, _ :: _, [] => fun _ h => by simp [Op.bytesLess] at h
  | a :: x, b :: y, c :: z => fun h k => by
    simp only [Op.bytesLess, Bool.or_eq_true, decide_eq_true_eq, Bool.and_eq_true, beq_iff_eq] at h k ⊢
    rcases h with h | ⟨rfl, h⟩
    · rcases k with k | ⟨rfl, k⟩
      · left; rw [UInt8.lt_iff_toNat_lt] at *; omega
      · exact Or.inl h
    · rcases k with k | ⟨rfl, k⟩
      · exact Or.inl k
      · exact Or.inr ⟨rfl, bl_trans x y z h k⟩

theorem bl_tri : ∀ x y : List UInt8, Op.bytesLess x y = false → Op.bytesLess y x = false → x = y
  | [], [] => fun _ _ => rfl
  | [], _ :: _ => fun h _ => by simp [Op.bytesLess] at h
  | _ :: _, [] => fun _ h => by simp [Op.bytesLess] at h
  | a :: x, b :: y => fun h k => by
    simp only [Op.bytesLess, Bool.or_eq_false_iff, decide_eq_false_iff_not, Bool.and_eq_false_iff, beq_eq_false_iff_ne] at h k
    have e : a = b := by
      apply UInt8.toNat_inj.1
      have h1 := h.1; have k1 := k.1
      rw [UInt8.lt_iff_toNat_lt] at h1 k1
      omega
    subst e
    rw [bl_tri x y (h.2.resolve_left (fun n => n rfl)) (k.2.resolve_left (fun n => n rfl))]

theorem bl_asymm {x y : List UInt8} (h : Op.bytesLess x y = true) : Op.bytesLess y x = false := by
  cases k : Op.bytesLess y x with
  | false => rfl
  | true => exact absurd (bl_trans x y x h k) (by rw [bl_irrefl]; decide)

/-- The order, said by cases. -/
theorem lessZ_iff (a b : Zk) : lessZ a b = true ↔ Op.bytesLess a.fn.toList b.fn.toList = true ∨ (a.fn.toList = b.fn.toList ∧ (a.line < b.line ∨ (a.line = b.line ∧ (a.col < b.col ∨ (a.col = b.col ∧ Op.bytesLess a.msg.toList b.msg.toList = true))))) := by
  unfold lessZ
  by_cases hf : a.fn.toList = b.fn.toList
  · have n1 : ¬ Op.bytesLess a.fn.toList b.fn.toList = true := by rw [hf, bl_irrefl]; decide
    rw [if_pos (by simpa using hf)]
    by_cases hl : a.line = b.line
    · rw [if_pos (by simpa using hl)]
      by_cases hc : a.col = b.col
      · rw [if_pos (by simpa using hc)]
        constructor
        · exact fun h => Or.inr ⟨hf, Or.inr ⟨hl, Or.inr ⟨hc, h⟩⟩⟩
        · rintro (h | ⟨_, h | ⟨_, h | ⟨_, h⟩⟩⟩)
          · exact absurd h n1
          · omega
          · omega
          · exact h
      · rw [if_neg (by simpa using hc)]
        constructor
        · exact fun h => Or.inr ⟨hf, Or.inr ⟨hl, Or.inl (of_decide_eq_true h)⟩⟩
        · rintro (h | ⟨_, h | ⟨_, h | ⟨h, _⟩⟩⟩)
          · exact absurd h n1
          · omega
          · exact decide_eq_true h
          · exact absurd h hc
    · rw [if_neg (by simpa using hl)]
      constructor
      · exact fun h => Or.inr ⟨hf, Or.inl (of_decide_eq_true h)⟩
      · rintro (h | ⟨_, h | ⟨h, _⟩⟩)
        · exact absurd h n1
        · exact decide_eq_true h
        · exact absurd h hl
  · rw [if_neg (by simpa using hf)]
    constructor
    · exact fun h => Or.inl h
    · rintro (h | ⟨h, _⟩)
      · exact h
      · exact absurd h hf

theorem sameZ_iff (a b : Zk) : sameZ a b = true ↔ a.fn.toList = b.fn.toList ∧ a.line = b.line ∧ a.col = b.col ∧ a.msg.toList = b.msg.toList := by
  unfold sameZ
  simp only [Bool.and_eq_true, beq_iff_eq]
  exact ⟨fun ⟨⟨⟨h1, h2⟩, h3⟩, h4⟩ => ⟨h1, h2, h3, h4⟩, fun ⟨h1, h2, h3, h4⟩ => ⟨⟨⟨h1, h2⟩, h3⟩, h4⟩⟩

theorem lessZ_trans (a b c : Zk) (h : lessZ a b = true) (k : lessZ b c = true) : lessZ a c = true := by
  rw [lessZ_iff] at h k ⊢
  rcases h with h | ⟨e1, h⟩
  · rcases k with k | ⟨e2, _⟩
    · exact Or.inl (bl_trans _ _ _ h k)
    · exact Or.inl (e2 ▸ h)
  · rcases k with k | ⟨e2, k⟩
    · exact Or.inl (e1.symm ▸ k)
    · refine Or.inr ⟨e1.trans e2, ?_⟩
      rcases h with h | ⟨l1, h⟩
      · rcases k with k | ⟨l2, _⟩
        · exact Or.inl (by omega)
        · exact Or.inl (by omega)
      · rcases k with k | ⟨l2, k⟩
        · exact Or.inl (by omega)
        · refine Or.inr ⟨l1.trans l2, ?_⟩
          rcases h with h | ⟨c1, h⟩
          · rcases k with k | ⟨c2, _⟩
            · exact Or.inl (by omega)
            · exact Or.inl (by omega)
          · rcases k with k | ⟨c2, k⟩
            · exact Or.inl (by omega)
            · exact Or.inr ⟨c1.trans c2, bl_trans _ _ _ h k⟩

theorem lessZ_irrefl (a : Zk) : lessZ a a = false := by
  unfold lessZ
  simp [bl_irrefl]

theorem lessZ_asymm {a b : Zk} (h : lessZ a b = true) : lessZ b a = false := by
  cases k : lessZ b a with
  | false => rfl
  | true => exact absurd (lessZ_trans a b a h k) (by rw [lessZ_irrefl]; decide)

theorem sameZ_of_not {a b : Zk} (h : lessZ a b = false) (k : lessZ b a = false) : sameZ a b = true := by
  rw [sameZ_iff]
  have h' : ¬ lessZ a b = true := by rw [h]; decide
  have k' : ¬ lessZ b a = true := by rw [k]; decide
  rw [lessZ_iff] at h' k'
  have e1 : a.fn.toList = b.fn.toList := bl_tri _ _ (by cases q : Op.bytesLess a.fn.toList b.fn.toList with
    | false => rfl
    | true => exact absurd (Or.inl q) h') (by cases q : Op.bytesLess b.fn.toList a.fn.toList with
    | false => rfl
    | true => exact absurd (Or.inl q) k')
  have e2 : a.line = b.line := by
    have g1 : ¬ a.line < b.line := fun g => h' (Or.inr ⟨e1, Or.inl g⟩)
    have g2 : ¬ b.line < a.line := fun g => k' (Or.inr ⟨e1.symm, Or.inl g⟩)
    omega
  have e3 : a.col = b.col := by
    have g1 : ¬ a.col < b.col := fun g => h' (Or.inr ⟨e1, Or.inr ⟨e2, Or.inl g⟩⟩)
    have g2 : ¬ b.col < a.col := fun g => k' (Or.inr ⟨e1.symm, Or.inr ⟨e2.symm, Or.inl g⟩⟩)
    omega
  refine ⟨e1, e2, e3, bl_tri _ _ ?_ ?_⟩
  · cases q : Op.bytesLess a.msg.toList b.msg.toList with
    | false => rfl
    | true => exact absurd (Or.inr ⟨e1, Or.inr ⟨e2, Or.inr ⟨e3, q⟩⟩⟩) h'
  · cases q : Op.bytesLess b.msg.toList a.msg.toList with
    | false => rfl
    | true => exact absurd (Or.inr ⟨e1.symm, Or.inr ⟨e2.symm, Or.inr ⟨e3.symm, q⟩⟩⟩) k'

theorem not_of_sameZ {a b : Zk} (h : sameZ a b = true) : lessZ a b = false := by
  rw [sameZ_iff] at h
  obtain ⟨h1, h2, h3, h4⟩ := h
  unfold lessZ
  rw [h1, h2, h3, h4]
  simp [bl_irrefl]

theorem sameZ_symm {a b : Zk} (h : sameZ a b = true) : sameZ b a = true := by
  rw [sameZ_iff] at h ⊢
  exact ⟨h.1.symm, h.2.1.symm, h.2.2.1.symm, h.2.2.2.symm⟩

theorem sameZ_trans {a b c : Zk} (h : sameZ a b = true) (k : sameZ b c = true) : sameZ a c = true := by
  rw [sameZ_iff] at h k ⊢
  exact ⟨h.1.trans k.1, h.2.1.trans k.2.1, h.2.2.1.trans k.2.2.1, h.2.2.2.trans k.2.2.2⟩

/-- 'zzSameKey' and 'neither is Less' are one. -/
theorem sameZ_eq (a b : Zk) : sameZ a b = (!lessZ a b && !lessZ b a) := by
  cases h : sameZ a b with
  | true => rw [not_of_sameZ h, not_of_sameZ (sameZ_symm h)]; rfl
  | false =>
    cases h1 : lessZ a b with
    | true => rfl
    | false =>
      cases h2 : lessZ b a with
      | true => rfl
      | false => exact absurd (sameZ_of_not h1 h2) (by rw [h]; decide)

theorem lessZ_same_left {a b c : Zk} (h : sameZ a b = true) : lessZ a c = lessZ b c := by
  rw [sameZ_iff] at h
  obtain ⟨h1, h2, h3, h4⟩ := h
  unfold lessZ
  rw [h1, h2, h3, h4]
theorem lessZ_same_right {a b c : Zk} (h : sameZ a b = true) : lessZ c a = lessZ c b := by
  rw [sameZ_iff] at h
  obtain ⟨h1, h2, h3, h4⟩ := h
  unfold lessZ
  rw [h1, h2, h3, h4]

theorem lessZ_ntrans (a b c : Zk) (h : lessZ a b = false) (k : lessZ b c = false) : lessZ a c = false := by
  cases h2 : lessZ a c with
  | false => rfl
  | true =>
    cases h3 : lessZ b a with
    | true => exact absurd (lessZ_trans b a c h3 h2) (by rw [k]; decide)
    | false =>
      have s := sameZ_of_not h h3
      rw [lessZ_same_left s, k] at h2
      exact absurd h2 (by decide)

theorem swo_lessZ : Go.Sort.SWO lessZ where
  irrefl := lessZ_irrefl
  trans := lessZ_trans
  ntrans := lessZ_ntrans

end Go.Proofs.Yoegbw
