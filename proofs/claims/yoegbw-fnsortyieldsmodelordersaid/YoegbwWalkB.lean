/-
  THE WALKS OF THE MIDDLE FUNCTIONS: the bounds on the input's bytes (10, 16, 11), zzKeyOf (15), zzBuildTagged (17).
-/
import Derived.Test.YoegbwWalkA
import Derived.Deep.RegionHeld3
import Derived.Deep.DeepCutAuto
namespace Go.Proofs.Yoegbw
open Go.RowKit

/-- The argument: a slice of n records (of which nothing is said where there is none). -/
def XsAt (w : World) (a : Option Addr) (n : Nat) (z : Nat → Zk) : Prop := ∀ i, i < n → ∃ b off, a = some ⟨b, off, none⟩ ∧ ZAt w b (off + i * 5) (z i)

theorem XsAt.below {B : Nat} {w w' : World} {a : Option Addr} {n : Nat} {z : Nat → Zk} (h : XsAt w a n z) (hb : Below B w w') (hB : w.heap.size ≤ B) : XsAt w' a n z := fun i hi => by
  obtain ⟨b, off, e, hz⟩ := h i hi
  exact ⟨b, off, e, hz.below hb (by have := hz.lt; omega)⟩

def Sizes (n : Nat) (z : Nat → Zk) : Prop := ∀ i, i < n → (z i).fn.size ≤ maxLen ∧ (z i).msg.size ≤ maxLen

/-- It hands back a bool ¦ an int, whichever. (Behind a name: the walk's 'simp' would part a bare '∃ b : Bool' in two.) -/
def RetBool (e : Ending) : Prop := ∃ b : Bool, e = .returned (.bool b)
def RetInt (e : Ending) : Prop := ∃ t : Int, e = .returned (.int .i64 t)

set_option maxHeartbeats 800000 in
theorem bytes16_any (a : Option Addr) (n cap : Nat) (z : Nat → Zk) (w : World) (hn : n ≤ maxLen) (hx : XsAt w a n z) (hs : Sizes n z) :
    Calls Egbg.prog 16 #[.slice a n cap] w fun e w' => RetBool e ∧ w' = w := by
  unfold maxLen at hn
  by_cases hbig : 1048576 < n
  · go_enter Egbg.func16, Egbg.ntmps16
    go_wp2
    go_ret
    exact ⟨⟨_, rfl⟩, rfl⟩
  · have hb1 : decide ((1048576 : Int) < (n : Int)) = false := by simp; omega
    go_enter Egbg.func16, Egbg.ntmps16
    go_wp2
    go_loop [3, 4] (fun s i => ∃ (k : Nat) (t : Int), i = .int .i64 k ∧ k ≤ n ∧ s = .int .i64 t ∧ 0 ≤ t ∧ t ≤ 1048576) (fun _ i => n - (intOf i).toNat)
    case atStart => exact ⟨0, n, rfl, by omega, rfl, by omega, by omega⟩
    case round =>
      obtain ⟨k, t, rfl, hk, rfl, ht0, ht1⟩ := hrel
      by_cases hlt : k < n
      · obtain ⟨b, off, rfl, c0, c1, c2, c3, c4⟩ := hx k hlt
        obtain ⟨m0, m4⟩ := hs k hlt
        unfold maxLen at m0 m4
        go_wp2
        · go_ret; exact ⟨⟨_, rfl⟩, rfl⟩
        · go_ret; exact ⟨⟨_, rfl⟩, rfl⟩
        · go_ret; exact ⟨⟨_, rfl⟩, rfl⟩
        · go_ret; exact ⟨⟨_, rfl⟩, rfl⟩
        go_round
        case rel => exact ⟨k + 1, _, by go_num, by omega, rfl, by omega, by omega⟩
        case measure => simp [intOf]; omega
      · go_wp2
        go_ret
        exact ⟨⟨_, rfl⟩, rfl⟩

set_option maxHeartbeats 800000 in
theorem bytes10_any (a : Option Addr) (n cap : Nat) (z : Nat → Zk) (w : World) (hn : n ≤ maxLen) (hx : XsAt w a n z) (hs : Sizes n z) :
    Calls Egbg.prog 10 #[.slice a n cap] w fun e w' => RetBool e ∧ w' = w := by
  unfold maxLen at hn
  by_cases hbig : 1048576 < n
  · go_enter Egbg.func10, Egbg.ntmps10
    go_wp2
    go_ret
    exact ⟨⟨_, rfl⟩, rfl⟩
  · have hb1 : decide ((1048576 : Int) < (n : Int)) = false := by simp; omega
    go_enter Egbg.func10, Egbg.ntmps10
    go_wp2
    go_loop [3, 4] (fun s i => ∃ (k : Nat) (t : Int), i = .int .i64 k ∧ k ≤ n ∧ s = .int .i64 t ∧ 0 ≤ t ∧ t ≤ 1048576) (fun _ i => n - (intOf i).toNat)
    case atStart => exact ⟨0, n, rfl, by omega, rfl, by omega, by omega⟩
    case round =>
      obtain ⟨k, t, rfl, hk, rfl, ht0, ht1⟩ := hrel
      by_cases hlt : k < n
      · obtain ⟨b, off, rfl, c0, c1, c2, c3, c4⟩ := hx k hlt
        obtain ⟨m0, m4⟩ := hs k hlt
        unfold maxLen at m0 m4
        go_wp2
        · go_ret; exact ⟨⟨_, rfl⟩, rfl⟩
        · go_ret; exact ⟨⟨_, rfl⟩, rfl⟩
        · go_ret; exact ⟨⟨_, rfl⟩, rfl⟩
        · go_ret; exact ⟨⟨_, rfl⟩, rfl⟩
        go_round
        case rel => exact ⟨k + 1, _, by go_num, by omega, rfl, by omega, by omega⟩
        case measure => simp [intOf]; omega
      · go_wp2
        go_ret
        exact ⟨⟨_, rfl⟩, rfl⟩

set_option maxHeartbeats 800000 in
theorem bytes11_any (a : Option Addr) (n cap : Nat) (z : Nat → Zk) (w : World) (hn : n ≤ maxLen) (hx : XsAt w a n z) :
    Calls Egbg.prog 11 #[.slice a n cap] w fun e w' => RetInt e ∧ ∃ q, w' = w.drewN q := by
  unfold maxLen at hn
  go_enter Egbg.func11, Egbg.ntmps11
  go_wp2
  go_loopw [3, 4] (fun s i wr => ∃ (k q : Nat) (t : Int), i = .int .i64 k ∧ k ≤ n ∧ s = .int .i64 t ∧ wr = w.drewN q) (fun _ i _ => n - (intOf i).toNat)
  case atStart => exact ⟨0, 0, 0, rfl, by omega, rfl, rfl⟩
  case round =>
    obtain ⟨k, q, t, rfl, hk, rfl, rfl⟩ := hrel
    by_cases hlt : k < n
    · obtain ⟨b, off, rfl, c0, c1, c2, c3, c4⟩ := hx k hlt
      go_wp2
      go_quiet (fail)
      go_wp2
      · go_ret
        exact ⟨⟨_, rfl⟩, _, rfl⟩
      · go_roundw
        case rel => exact ⟨k + 1, _, _, by go_num, by omega, rfl, rfl⟩
        case measure => simp [intOf]; omega
    · go_wp2
      go_ret
      exact ⟨⟨_, rfl⟩, _, rfl⟩

set_option maxHeartbeats 800000 in
theorem keyOf_any (b : Nat) (x : Zk) (w : World) (h : ZAt w b 0 x) :
    Calls Egbg.prog 15 #[.pointer (some ⟨b, 0, none⟩)] w fun e w' => e = .returned (zval x) ∧ w' = (w.alloc (.cells (zcells x) 23)).drew := by
  obtain ⟨f, o, l, c, m⟩ := x
  have hb := h.lt
  obtain ⟨i0, i1, i2, i3, i4⟩ := h
  dsimp only at i0 i1 i2 i3 i4
  simp only [Nat.zero_add] at i0 i1 i2 i3 i4
  unfold zval zcells
  go_enter Egbg.func15, Egbg.ntmps15
  go_wp2_with fail
  go_region_held3 (fun w' => w'.cell? ⟨b, 0, none⟩ = some (.string f) ∧ w'.cell? ⟨b, 1, none⟩ = some (.int .i64 o) ∧ w'.cell? ⟨b, 2, none⟩ = some (.int .i64 l) ∧ w'.cell? ⟨b, 3, none⟩ = some (.int .i64 c) ∧ w'.cell? ⟨b, 4, none⟩ = some (.string m))
    (go_keep) (fail)
  go_wp2_with fail
  exact bodyPost_ret (v := .agg #[.string f, .int .i64 o, .int .i64 l, .int .i64 c, .string m]) (by simp [results, Egbg.results15, go_sem]) rfl ⟨rfl, rfl⟩


end Go.Proofs.Yoegbw
