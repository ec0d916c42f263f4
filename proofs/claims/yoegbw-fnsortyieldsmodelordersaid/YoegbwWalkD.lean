/-
  THE WALKS OF zzIntCmp (19), zzStrCmp (18), zzKeyCmp (13).
-/
import Derived.Test.YoegbwWalkA
import Derived.Test.YoegbwPlainD
namespace Go.Proofs.Yoegbw
open Go.RowKit

theorem ret_int {k : IntKind} {a b : Int} (h : a = b) : Ending.returned (.int k a) = .returned (.int k b) := by rw [h]

set_option maxHeartbeats 400000 in
theorem intCmp_any (a b : Int) (w : World) : Calls Egbg.prog 19 #[.int .i64 a, .int .i64 b] w fun e w' => e = .returned (.int .i64 (cmpI a b)) ∧ w = w' := by
  by_cases h : a < b
  · have H : Hid (cmpI a b = -1) := by show _ = _; unfold cmpI; rw [if_pos h]
    go_enter Egbg.func19, Egbg.ntmps19
    go_wp2
    go_ret
    exact ⟨ret_int H.out.symm, rfl⟩
  · by_cases h2 : b < a
    · have H : Hid (cmpI a b = 1) := by show _ = _; unfold cmpI; rw [if_neg h, if_pos h2]
      go_enter Egbg.func19, Egbg.ntmps19
      go_wp2
      go_ret
      exact ⟨ret_int H.out.symm, rfl⟩
    · have H : Hid (cmpI a b = 0) := by show _ = _; unfold cmpI; rw [if_neg h, if_neg h2]
      go_enter Egbg.func19, Egbg.ntmps19
      go_wp2
      go_ret
      exact ⟨ret_int H.out.symm, rfl⟩

/-! ### Bytes -/
theorem toList_get (s : ByteArray) (k : Nat) (h : k < s.size) : s.toList[k]? = some s[k] := by
  rw [ByteArray.toList_eq]
  rw [List.getElem?_eq_getElem (by simpa using h)]
  rfl
theorem toList_len (s : ByteArray) : s.toList.length = s.size := by rw [ByteArray.toList_eq]; simp

theorem take_snoc (s : ByteArray) (k : Nat) (h : k < s.size) : s.toList.take (k + 1) = s.toList.take k ++ [s[k]] := by
  rw [List.take_add_one, toList_get s k h]; rfl

theorem cmpS_lt {a b : ByteArray} {k : Nat} (ha : k < a.size) (hb : k < b.size) (h : a.toList.take k = b.toList.take k) (hl : (a[k].toNat : Int) < (b[k].toNat : Int)) : cmpS a b = -1 := by
  unfold cmpS
  rw [if_pos (bl_first k _ _ _ _ (toList_get a k ha) (toList_get b k hb) h (by rw [UInt8.lt_iff_toNat_lt]; omega))]
theorem cmpS_gt {a b : ByteArray} {k : Nat} (ha : k < a.size) (hb : k < b.size) (h : a.toList.take k = b.toList.take k) (hl : (b[k].toNat : Int) < (a[k].toNat : Int)) : cmpS a b = 1 := by
  have h1 := bl_first k _ _ _ _ (toList_get b k hb) (toList_get a k ha) h.symm (by rw [UInt8.lt_iff_toNat_lt]; omega)
  unfold cmpS
  rw [bl_asymm h1, h1]
  simp
theorem cmpS_short {a b : ByteArray} {k : Nat} (hk : k = a.size) (h : a.toList.take k = b.toList.take k) (hl : a.size < b.size) : cmpS a b = -1 := by
  have e : a.toList = b.toList.take a.toList.length := by
    rw [toList_len, ← hk, ← h, List.take_of_length_le (by rw [toList_len]; omega)]
  unfold cmpS
  rw [if_pos (bl_prefix _ _ e (by rw [toList_len, toList_len]; exact hl))]
theorem cmpS_long {a b : ByteArray} {k : Nat} (hk : k = b.size) (h : a.toList.take k = b.toList.take k) (hl : b.size < a.size) : cmpS a b = 1 := by
  have e : b.toList = a.toList.take b.toList.length := by
    rw [toList_len, ← hk, h, List.take_of_length_le (by rw [toList_len]; omega)]
  have h1 := bl_prefix _ _ e (by rw [toList_len, toList_len]; exact hl)
  unfold cmpS
  rw [bl_asymm h1, h1]
  simp
theorem cmpS_same {a b : ByteArray} {k : Nat} (hk : k = a.size) (hk2 : a.size = b.size) (h : a.toList.take k = b.toList.take k) : cmpS a b = 0 := by
  rw [cmpS_zero]
  rw [List.take_of_length_le (by rw [toList_len]; omega), List.take_of_length_le (by rw [toList_len]; omega)] at h
  exact h

set_option maxHeartbeats 800000 in
theorem strCmp_any (a b : ByteArray) (w : World) (ha : a.size ≤ maxLen) (hb : b.size ≤ maxLen) :
    Calls Egbg.prog 18 #[.string a, .string b] w fun e w' => e = .returned (.int .i64 (cmpS a b)) ∧ ∃ q, w' = w.drewN q := by
  unfold maxLen at ha hb
  by_cases hab : b.size < a.size
  · go_enter Egbg.func18, Egbg.ntmps18
    go_wp2
    go_loopw [6] (fun vi wr => ∃ k q : Nat, vi = .int .i64 k ∧ k ≤ b.size ∧ a.toList.take k = b.toList.take k ∧ wr = w.drewN q) (fun vi _ => b.size - (intOf vi).toNat)
    case atStart => exact ⟨0, 0, rfl, by omega, rfl, rfl⟩
    case round =>
      obtain ⟨k, q, rfl, hk, ht, rfl⟩ := hrel
      have HT : Hid (a.toList.take k = b.toList.take k) := ht
      clear ht
      by_cases hkn : k < b.size
      · have hka : k < a.size := by omega
        have hkb : k < b.size := by omega
        have hka' : (k : Int) < (a.size : Int) := by omega
        have hkb' : (k : Int) < (b.size : Int) := by omega
        by_cases h1 : (a[k].toNat : Int) < (b[k].toNat : Int)
        · go_wp2
          go_quiet (fail)
          go_wp2
          go_ret
          exact ⟨ret_int (cmpS_lt hka hkb HT.out h1).symm, by simp only [World.drewN_drewN]; exact ⟨_, rfl⟩⟩
        · by_cases h2 : (b[k].toNat : Int) < (a[k].toNat : Int)
          · go_wp2
            go_quiet (fail)
            go_wp2
            go_quiet (fail)
            go_wp2
            go_ret
            exact ⟨ret_int (cmpS_gt hka hkb HT.out h2).symm, by simp only [World.drewN_drewN]; exact ⟨_, rfl⟩⟩
          · go_wp2
            go_quiet (fail)
            go_wp2
            go_quiet (fail)
            go_wp2
            go_roundw
            case rel =>
              refine ⟨k + 1, _, by go_num, by omega, ?_, rfl⟩
              rw [take_snoc a k hka, take_snoc b k hkb, HT.out, UInt8.toNat_inj.1 (show a[k].toNat = b[k].toNat by omega)]
            case measure => simp [intOf]; omega
      · go_wp2
        go_ret
        exact ⟨ret_int (cmpS_long (by omega) HT.out hab).symm, _, rfl⟩
  · go_enter Egbg.func18, Egbg.ntmps18
    go_wp2
    go_loopw [6] (fun vi wr => ∃ k q : Nat, vi = .int .i64 k ∧ k ≤ a.size ∧ a.toList.take k = b.toList.take k ∧ wr = w.drewN q) (fun vi _ => a.size - (intOf vi).toNat)
    case atStart => exact ⟨0, 0, rfl, by omega, rfl, rfl⟩
    case round =>
      obtain ⟨k, q, rfl, hk, ht, rfl⟩ := hrel
      have HT : Hid (a.toList.take k = b.toList.take k) := ht
      clear ht
      by_cases hkn : k < a.size
      · have hka : k < a.size := by omega
        have hkb : k < b.size := by omega
        have hka' : (k : Int) < (a.size : Int) := by omega
        have hkb' : (k : Int) < (b.size : Int) := by omega
        by_cases h1 : (a[k].toNat : Int) < (b[k].toNat : Int)
        · go_wp2
          go_quiet (fail)
          go_wp2
          go_ret
          exact ⟨ret_int (cmpS_lt hka hkb HT.out h1).symm, by simp only [World.drewN_drewN]; exact ⟨_, rfl⟩⟩
        · by_cases h2 : (b[k].toNat : Int) < (a[k].toNat : Int)
          · go_wp2
            go_quiet (fail)
            go_wp2
            go_quiet (fail)
            go_wp2
            go_ret
            exact ⟨ret_int (cmpS_gt hka hkb HT.out h2).symm, by simp only [World.drewN_drewN]; exact ⟨_, rfl⟩⟩
          · go_wp2
            go_quiet (fail)
            go_wp2
            go_quiet (fail)
            go_wp2
            go_roundw
            case rel =>
              refine ⟨k + 1, _, by go_num, by omega, ?_, rfl⟩
              rw [take_snoc a k hka, take_snoc b k hkb, HT.out, UInt8.toNat_inj.1 (show a[k].toNat = b[k].toNat by omega)]
            case measure => simp [intOf]; omega
      · by_cases hl : a.size < b.size
        · go_wp2
          go_ret
          exact ⟨ret_int (cmpS_short (by omega) HT.out hl).symm, _, rfl⟩
        · go_wp2
          go_ret
          exact ⟨ret_int (cmpS_same (by omega) (by omega) HT.out).symm, _, rfl⟩

set_option maxHeartbeats 800000 in
theorem keyCmp_any (x y : Zk) (w : World) (x0 : x.fn.size ≤ maxLen) (x4 : x.msg.size ≤ maxLen) (y0 : y.fn.size ≤ maxLen) (y4 : y.msg.size ≤ maxLen) :
    Calls Egbg.prog 13 #[zval x, zval y] w fun e w' => e = .returned (.int .i64 (cmpZ x y)) ∧ ∃ q, w' = ((w.alloc (.cells (zcells x) 23)).alloc (.cells (zcells y) 23)).drewN q := by
  have hf := fun W => strCmp_any x.fn y.fn W x0 y0
  have hm := fun W => strCmp_any x.msg y.msg W x4 y4
  have hl := fun W => intCmp_any x.line y.line W
  have hc := fun W => intCmp_any x.col y.col W
  clear x0 x4 y0 y4
  obtain ⟨f, o, l, c, m⟩ := x
  obtain ⟨f', o', l', c', m'⟩ := y
  dsimp only at hf hm hl hc
  have HF : Hid (cmpZ ⟨f, o, l, c, m⟩ ⟨f', o', l', c', m'⟩ = if cmpS f f' != 0 then cmpS f f' else if cmpI l l' != 0 then cmpI l l' else if cmpI c c' != 0 then cmpI c c' else cmpS m m') := by show _ = _; rfl
  generalize cmpS f f' = c1 at *
  generalize cmpI l l' = c2 at *
  generalize cmpI c c' = c3 at *
  generalize cmpS m m' = c4 at *
  generalize cmpZ ⟨f, o, l, c, m⟩ ⟨f', o', l', c', m'⟩ = cc at *
  unfold zval zcells
  cases h1 : (c1 != 0) with
  | true =>
    go_enter Egbg.func13, Egbg.ntmps13
    go_wp2_with fail
    refine (hf _).mono ?_
    rintro e w' ⟨rfl, q, rfl⟩
    go_wp2_with fail
    go_ret
    exact ⟨ret_int (by rw [HF.out, h1]; rfl), q, rfl⟩
  | false =>
    cases h2 : (c2 != 0) with
    | true =>
      go_enter Egbg.func13, Egbg.ntmps13
      go_wp2_with fail
      refine (hf _).mono ?_
      rintro e w' ⟨rfl, q, rfl⟩
      go_wp2_with fail
      refine (hl _).mono ?_
      rintro e w' ⟨rfl, rfl⟩
      go_wp2_with fail
      go_ret
      exact ⟨ret_int (by rw [HF.out, h1, h2]; rfl), q, rfl⟩
    | false =>
      cases h3 : (c3 != 0) with
      | true =>
        go_enter Egbg.func13, Egbg.ntmps13
        go_wp2_with fail
        refine (hf _).mono ?_
        rintro e w' ⟨rfl, q, rfl⟩
        go_wp2_with fail
        refine (hl _).mono ?_
        rintro e w' ⟨rfl, rfl⟩
        go_wp2_with fail
        refine (hc _).mono ?_
        rintro e w' ⟨rfl, rfl⟩
        go_wp2_with fail
        go_ret
        exact ⟨ret_int (by rw [HF.out, h1, h2, h3]; rfl), q, rfl⟩
      | false =>
        go_enter Egbg.func13, Egbg.ntmps13
        go_wp2_with fail
        refine (hf _).mono ?_
        rintro e w' ⟨rfl, q, rfl⟩
        go_wp2_with fail
        refine (hl _).mono ?_
        rintro e w' ⟨rfl, rfl⟩
        go_wp2_with fail
        refine (hc _).mono ?_
        rintro e w' ⟨rfl, rfl⟩
        go_wp2_with fail
        refine (hm _).mono ?_
        rintro e w' ⟨rfl, q2, rfl⟩
        go_wp2_with fail
        go_ret
        exact ⟨ret_int (by rw [HF.out, h1, h2, h3]; rfl), _, rfl⟩

end Go.Proofs.Yoegbw
