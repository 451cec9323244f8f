/-
  LABELS: contracts of LabelOf, value, Compare, order, cmp.Compare, IsNone over the dump 'ybulkclxkgreat'.
-/
import Derived.Test.YbulkclxkGreatRows
import Derived.WalkKit
import Derived.ProofKit
import Derived.RegionTactic
import Derived.WalkSpells
import Derived.WalkLawsBesides
import Derived.Below
import Derived.LoopTactic
import Derived.Deep.QuietTactic
import Derived.BigQuiet
import Derived.Deep.RegionWith
namespace Go.Proofs.YbulkclxkGreat.lab
open Go.ChangeShapes Go.WideShapes Go.ChangeAt Go.RowKit
set_option linter.unusedVariables false

/-- -1, 0 or 1 as x is below, at or above y. -/
def cmpI (x y : Int) : Int := if x < y then -1 else if y < x then 1 else 0
theorem cmpI_lt {x y : Int} (h : x < y) : cmpI x y = -1 := by simp [cmpI, h]
theorem cmpI_gt {x y : Int} (h : y < x) : cmpI x y = 1 := by simp [cmpI, h]; omega
theorem cmpI_eq {x y : Int} (h : x = y) : cmpI x y = 0 := by simp [cmpI, h]

/-- A label's value; the number by which labels are ordered: by value, then by length. -/
def val (b n : Int) : Int := IntKind.u64.wrap (b * 2 ^ (64 - n).toNat)
def lkey (b n : Int) : Int := val b n * 256 + n

set_option maxHeartbeats 400000 in
theorem value_any (b n : Int) (w : World) (hn : 0 ≤ n) (hn' : n ≤ 64) :
    Calls Ybaz.prog 82 #[.agg #[.int .u64 b, .int .u8 n]] w fun e w' => e = .returned (.int .u64 (val b n)) ∧ w' = w.alloc (.cells #[.int .u64 b, .int .u8 n] 28) := by
  go_enter Ybaz.func82, Ybaz.ntmps82
  go_wp2
  go_ret
  exact ⟨rfl, rfl⟩

set_option maxHeartbeats 400000 in
theorem cmp64 (x y : Int) (w : World) : Calls Ybaz.prog 78 #[.int .u64 x, .int .u64 y] w fun e w' => e = .returned (.int .i64 (cmpI x y)) ∧ w' = w := by
  rcases Int.lt_trichotomy x y with h | h | h
  · rw [cmpI_lt h]
    go_enter Ybaz.func78, Ybaz.ntmps78
    go_wp2
    go_ret
    exact ⟨rfl, rfl⟩
  · subst h
    rw [cmpI_eq rfl]
    go_enter Ybaz.func78, Ybaz.ntmps78
    go_wp2
    go_ret
    exact ⟨rfl, rfl⟩
  · rw [cmpI_gt h]
    have h' : ¬ x < y := by omega
    go_enter Ybaz.func78, Ybaz.ntmps78
    go_wp2
    go_ret
    exact ⟨rfl, rfl⟩

set_option maxHeartbeats 400000 in
theorem cmp8 (x y : Int) (w : World) : Calls Ybaz.prog 66 #[.int .u8 x, .int .u8 y] w fun e w' => e = .returned (.int .i64 (cmpI x y)) ∧ w' = w := by
  rcases Int.lt_trichotomy x y with h | h | h
  · rw [cmpI_lt h]
    go_enter Ybaz.func66, Ybaz.ntmps66
    go_wp2
    go_ret
    exact ⟨rfl, rfl⟩
  · subst h
    rw [cmpI_eq rfl]
    go_enter Ybaz.func66, Ybaz.ntmps66
    go_wp2
    go_ret
    exact ⟨rfl, rfl⟩
  · rw [cmpI_gt h]
    have h' : ¬ x < y := by omega
    go_enter Ybaz.func66, Ybaz.ntmps66
    go_wp2
    go_ret
    exact ⟨rfl, rfl⟩

set_option maxHeartbeats 1000000 in
theorem compare_any (b n b' n' : Int) (w : World) (hn : 0 ≤ n) (hn' : n ≤ 64) (hm : 0 ≤ n') (hm' : n' ≤ 64) :
    Calls Ybaz.prog 65 #[.agg #[.int .u64 b, .int .u8 n], .agg #[.int .u64 b', .int .u8 n']] w fun e w' => e = .returned (.int .i64 (cmpI (val b n) (val b' n'))) ∧ Below w.heap.size w w' := by
  go_enter Ybaz.func65, Ybaz.ntmps65
  go_wp2_with fail
  go_region_with (first
    | (go_at_call_of 82 (Value.int .u64 b); refine (value_any b n _ hn hn').mono ?_; rintro e w' ⟨rfl, rfl⟩)
    | (go_at_call_of 82 (Value.int .u64 b'); refine (value_any b' n' _ hm hm').mono ?_; rintro e w' ⟨rfl, rfl⟩)
    | (go_at_call 78; refine (cmp64 _ _ _).mono ?_; rintro e w' ⟨rfl, rfl⟩))
  all_goals (go_wp2; go_ret; exact ⟨rfl, (((((Below.refl _ w).alloc (Nat.le_refl _) _).alloc (by simp) _).alloc (by simp; omega) _).alloc (by simp; omega) _).drew⟩)

set_option maxHeartbeats 400000 in
theorem labelNone (b n : Int) (w : World) : Calls Ybaz.prog 30 #[.agg #[.int .u64 b, .int .u8 n]] w fun e w' => e = .returned (.bool (n == 0)) ∧ w' = w.alloc (.cells #[.int .u64 b, .int .u8 n] 28) := by
  go_enter Ybaz.func30, Ybaz.ntmps30
  go_wp2
  go_ret
  exact ⟨rfl, rfl⟩

set_option maxHeartbeats 400000 in
theorem peerNone (a : ByteArray) (b n : Int) (w : World) : Calls Ybaz.prog 33 #[.agg #[.string a, .int .u64 b, .int .u8 n]] w fun e w' => e = .returned (.bool a.toList.isEmpty) ∧ w' = w.alloc (.cells #[.string a, .int .u64 b, .int .u8 n] 31) := by
  go_enter Ybaz.func33, Ybaz.ntmps33
  go_wp2
  go_ret
  exact ⟨rfl, rfl⟩

theorem lkey_lt_of {b n b' n' : Int} (h : val b n < val b' n') (hn : 0 ≤ n) (hn' : n ≤ 64) (hm : 0 ≤ n') (hm' : n' ≤ 64) : lkey b n < lkey b' n' := by unfold lkey; omega

set_option maxHeartbeats 1000000 in
theorem order_any (b n b' n' : Int) (w : World) (hn : 0 ≤ n) (hn' : n ≤ 64) (hm : 0 ≤ n') (hm' : n' ≤ 64) :
    Calls Ybaz.prog 48 #[.agg #[.int .u64 b, .int .u8 n], .agg #[.int .u64 b', .int .u8 n']] w fun e w' => e = .returned (.int .i64 (cmpI (lkey b n) (lkey b' n'))) ∧ Below w.heap.size w w' := by
  have hc := fun wx => compare_any b n b' n' wx hn hn' hm hm'
  rcases Int.lt_trichotomy (val b n) (val b' n') with h | h | h
  · rw [cmpI_lt (lkey_lt_of h hn hn' hm hm')]
    have HC : Hid (∀ wx, Calls Ybaz.prog 65 #[.agg #[.int .u64 b, .int .u8 n], .agg #[.int .u64 b', .int .u8 n']] wx fun e w' => e = .returned (.int .i64 (-1)) ∧ Below wx.heap.size wx w') := by
      rw [cmpI_lt h] at hc; exact hc
    clear hc h
    go_enter Ybaz.func48, Ybaz.ntmps48
    go_wp2_with fail
    refine (HC.out _).mono ?_
    rintro e w1 ⟨rfl, hb⟩
    go_wp2
    go_ret
    exact ⟨rfl, (((Below.refl _ w).alloc (Nat.le_refl _) _).alloc (by simp) _).trans (hb.mono (by simp; omega))⟩
  · have HC : Hid (∀ wx, Calls Ybaz.prog 65 #[.agg #[.int .u64 b, .int .u8 n], .agg #[.int .u64 b', .int .u8 n']] wx fun e w' => e = .returned (.int .i64 0) ∧ Below wx.heap.size wx w') := by
      rw [cmpI_eq h] at hc; exact hc
    have e : cmpI (lkey b n) (lkey b' n') = cmpI n n' := by
      rcases Int.lt_trichotomy n n' with g | g | g
      · rw [cmpI_lt g, cmpI_lt (by unfold lkey; omega)]
      · rw [cmpI_eq g, cmpI_eq (by unfold lkey; omega)]
      · rw [cmpI_gt g, cmpI_gt (by unfold lkey; omega)]
    rw [e]
    clear hc h e
    go_enter Ybaz.func48, Ybaz.ntmps48
    go_wp2_with fail
    refine (HC.out _).mono ?_
    rintro e w1 ⟨rfl, hb⟩
    have h1 : w1.cell? ⟨w.heap.size, 1, none⟩ = some (.int .u8 n) := by rw [hb.cell (p := ⟨w.heap.size, 1, none⟩) (by simp; omega)]; simp
    have h2 : w1.cell? ⟨w.heap.size + 1, 1, none⟩ = some (.int .u8 n') := by rw [hb.cell (p := ⟨w.heap.size + 1, 1, none⟩) (by simp)]; simp
    go_wp2_with (go_at_call 66; refine (cmp8 _ _ _).mono ?_; rintro e w' ⟨rfl, rfl⟩)
    go_ret
    exact ⟨rfl, (((Below.refl _ w).alloc (Nat.le_refl _) _).alloc (by simp) _).trans (hb.mono (by simp; omega))⟩
  · rw [cmpI_gt (lkey_lt_of h hm hm' hn hn')]
    have HC : Hid (∀ wx, Calls Ybaz.prog 65 #[.agg #[.int .u64 b, .int .u8 n], .agg #[.int .u64 b', .int .u8 n']] wx fun e w' => e = .returned (.int .i64 1) ∧ Below wx.heap.size wx w') := by
      rw [cmpI_gt h] at hc; exact hc
    clear hc h
    go_enter Ybaz.func48, Ybaz.ntmps48
    go_wp2_with fail
    refine (HC.out _).mono ?_
    rintro e w1 ⟨rfl, hb⟩
    go_wp2
    go_ret
    exact ⟨rfl, (((Below.refl _ w).alloc (Nat.le_refl _) _).alloc (by simp) _).trans (hb.mono (by simp; omega))⟩

set_option maxHeartbeats 1000000 in
theorem search1_any (a : ByteArray) (b n b' n' : Int) (w : World) (hn : 0 ≤ n) (hn' : n ≤ 64) (hm : 0 ≤ n') (hm' : n' ≤ 64) :
    Calls Ybaz.prog 47 #[.agg #[.string a, .int .u64 b, .int .u8 n], .agg #[.int .u64 b', .int .u8 n']] w fun e w' => e = .returned (.int .i64 (cmpI (lkey b n) (lkey b' n'))) ∧ Below w.heap.size w w' := by
  go_enter Ybaz.func47, Ybaz.ntmps47
  go_wp2_with fail
  refine (order_any b n b' n' _ hn hn' hm hm').mono ?_
  rintro e w1 ⟨rfl, hb⟩
  go_wp2
  go_ret
  exact ⟨rfl, (((Below.refl _ w).alloc (Nat.le_refl _) _).alloc (by simp) _).trans (hb.mono (by simp; omega))⟩
end Go.Proofs.YbulkclxkGreat.lab
