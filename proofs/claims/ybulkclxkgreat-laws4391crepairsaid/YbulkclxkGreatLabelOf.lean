/-
  LabelOf at the numbers 0 to 39, and what the labels' keys are there.
-/
import Derived.Test.YbulkclxkGreatLab
import Derived.Lib.BitFns
namespace Go.Proofs.YbulkclxkGreat.lab
open Go.ChangeShapes Go.WideShapes Go.ChangeAt Go.RowKit
set_option linter.unusedVariables false

/-- l(x)'s bits and length, x below 40. -/
def lbs : List Int := [0, 1, 1, 3, 1, 3, 5, 7, 1, 3, 5, 7, 9, 11, 13, 15, 1, 3, 5, 7, 9, 11, 13, 15, 17, 19, 21, 23, 25, 27, 29, 31, 1, 3, 5, 7, 9, 11, 13, 15]
def lns : List Int := [1, 1, 2, 2, 3, 3, 3, 3, 4, 4, 4, 4, 4, 4, 4, 4, 5, 5, 5, 5, 5, 5, 5, 5, 5, 5, 5, 5, 5, 5, 5, 5, 6, 6, 6, 6, 6, 6, 6, 6]
def lb (x : Nat) : Int := lbs.getD x 0
def ln (x : Nat) : Int := lns.getD x 0

set_option maxRecDepth 100000 in
set_option maxHeartbeats 1000000 in
theorem len64_any (x : Int) (w : World) (h0 : 0 ≤ x) (h1 : x ≤ 255) : Calls Ybaz.prog 17 #[.int .u64 x] w fun e w' => e = .returned (.int .i64 (Lib.bitLen x.toNat)) ∧ w' = w := by
  go_enter Ybaz.func17, Ybaz.ntmps17
  go_wp2
  go_ret
  refine ⟨congrArg Ending.returned (congrArg (Value.int IntKind.i64) ?_), rfl⟩
  rw [Lib.len8_of x h0 h1]
  have := Lib.bitLen_le8' x h0 h1
  unfold wrap64
  omega

set_option maxRecDepth 100000 in
set_option maxHeartbeats 1000000 in
theorem labelOf_0 (w : World) : Calls Ybaz.prog 8 #[.int .u64 0] w fun e w' => e = .returned (.agg #[.int .u64 0, .int .u8 1]) ∧ Below w.heap.size w w' := by
  go_enter Ybaz.func8, Ybaz.ntmps8
  go_wp2
  refine bodyPost_ret (v := .agg #[.int .u64 0, .int .u8 1]) (by simp [results, Ybaz.results8, go_sem]) rfl ⟨rfl, ?_⟩
  exact ((Below.refl _ w).alloc (Nat.le_refl _) _)

set_option maxRecDepth 100000 in
set_option maxHeartbeats 1000000 in
theorem labelOf_1 (w : World) : Calls Ybaz.prog 8 #[.int .u64 1] w fun e w' => e = .returned (.agg #[.int .u64 1, .int .u8 1]) ∧ Below w.heap.size w w' := by
  have hl : ∀ wx, Calls Ybaz.prog 17 #[.int .u64 1] wx fun e w' => e = .returned (.int .i64 1) ∧ w' = wx := fun wx => len64_any 1 wx (by omega) (by omega)
  go_enter Ybaz.func8, Ybaz.ntmps8
  go_wp2_with (go_at_call 17; refine (hl _).mono ?_; rintro e w' ⟨rfl, rfl⟩)
  refine bodyPost_ret (v := .agg #[.int .u64 1, .int .u8 1]) (by simp [results, Ybaz.results8, go_sem]; decide +kernel) rfl ⟨rfl, ?_⟩
  exact ((Below.refl _ w).alloc (Nat.le_refl _) _)

set_option maxRecDepth 100000 in
set_option maxHeartbeats 1000000 in
theorem labelOf_2 (w : World) : Calls Ybaz.prog 8 #[.int .u64 2] w fun e w' => e = .returned (.agg #[.int .u64 1, .int .u8 2]) ∧ Below w.heap.size w w' := by
  have hl : ∀ wx, Calls Ybaz.prog 17 #[.int .u64 2] wx fun e w' => e = .returned (.int .i64 2) ∧ w' = wx := fun wx => len64_any 2 wx (by omega) (by omega)
  go_enter Ybaz.func8, Ybaz.ntmps8
  go_wp2_with (go_at_call 17; refine (hl _).mono ?_; rintro e w' ⟨rfl, rfl⟩)
  refine bodyPost_ret (v := .agg #[.int .u64 1, .int .u8 2]) (by simp [results, Ybaz.results8, go_sem]; decide +kernel) rfl ⟨rfl, ?_⟩
  exact ((Below.refl _ w).alloc (Nat.le_refl _) _)

set_option maxRecDepth 100000 in
set_option maxHeartbeats 1000000 in
theorem labelOf_3 (w : World) : Calls Ybaz.prog 8 #[.int .u64 3] w fun e w' => e = .returned (.agg #[.int .u64 3, .int .u8 2]) ∧ Below w.heap.size w w' := by
  have hl : ∀ wx, Calls Ybaz.prog 17 #[.int .u64 3] wx fun e w' => e = .returned (.int .i64 2) ∧ w' = wx := fun wx => len64_any 3 wx (by omega) (by omega)
  go_enter Ybaz.func8, Ybaz.ntmps8
  go_wp2_with (go_at_call 17; refine (hl _).mono ?_; rintro e w' ⟨rfl, rfl⟩)
  refine bodyPost_ret (v := .agg #[.int .u64 3, .int .u8 2]) (by simp [results, Ybaz.results8, go_sem]; decide +kernel) rfl ⟨rfl, ?_⟩
  exact ((Below.refl _ w).alloc (Nat.le_refl _) _)

set_option maxRecDepth 100000 in
set_option maxHeartbeats 1000000 in
theorem labelOf_4 (w : World) : Calls Ybaz.prog 8 #[.int .u64 4] w fun e w' => e = .returned (.agg #[.int .u64 1, .int .u8 3]) ∧ Below w.heap.size w w' := by
  have hl : ∀ wx, Calls Ybaz.prog 17 #[.int .u64 4] wx fun e w' => e = .returned (.int .i64 3) ∧ w' = wx := fun wx => len64_any 4 wx (by omega) (by omega)
  go_enter Ybaz.func8, Ybaz.ntmps8
  go_wp2_with (go_at_call 17; refine (hl _).mono ?_; rintro e w' ⟨rfl, rfl⟩)
  refine bodyPost_ret (v := .agg #[.int .u64 1, .int .u8 3]) (by simp [results, Ybaz.results8, go_sem]; decide +kernel) rfl ⟨rfl, ?_⟩
  exact ((Below.refl _ w).alloc (Nat.le_refl _) _)

set_option maxRecDepth 100000 in
set_option maxHeartbeats 1000000 in
theorem labelOf_5 (w : World) : Calls Ybaz.prog 8 #[.int .u64 5] w fun e w' => e = .returned (.agg #[.int .u64 3, .int .u8 3]) ∧ Below w.heap.size w w' := by
  have hl : ∀ wx, Calls Ybaz.prog 17 #[.int .u64 5] wx fun e w' => e = .returned (.int .i64 3) ∧ w' = wx := fun wx => len64_any 5 wx (by omega) (by omega)
  go_enter Ybaz.func8, Ybaz.ntmps8
  go_wp2_with (go_at_call 17; refine (hl _).mono ?_; rintro e w' ⟨rfl, rfl⟩)
  refine bodyPost_ret (v := .agg #[.int .u64 3, .int .u8 3]) (by simp [results, Ybaz.results8, go_sem]; decide +kernel) rfl ⟨rfl, ?_⟩
  exact ((Below.refl _ w).alloc (Nat.le_refl _) _)

set_option maxRecDepth 100000 in
set_option maxHeartbeats 1000000 in
theorem labelOf_6 (w : World) : Calls Ybaz.prog 8 #[.int .u64 6] w fun e w' => e = .returned (.agg #[.int .u64 5, .int .u8 3]) ∧ Below w.heap.size w w' := by
  have hl : ∀ wx, Calls Ybaz.prog 17 #[.int .u64 6] wx fun e w' => e = .returned (.int .i64 3) ∧ w' = wx := fun wx => len64_any 6 wx (by omega) (by omega)
  go_enter Ybaz.func8, Ybaz.ntmps8
  go_wp2_with (go_at_call 17; refine (hl _).mono ?_; rintro e w' ⟨rfl, rfl⟩)
  refine bodyPost_ret (v := .agg #[.int .u64 5, .int .u8 3]) (by simp [results, Ybaz.results8, go_sem]; decide +kernel) rfl ⟨rfl, ?_⟩
  exact ((Below.refl _ w).alloc (Nat.le_refl _) _)

set_option maxRecDepth 100000 in
set_option maxHeartbeats 1000000 in
theorem labelOf_7 (w : World) : Calls Ybaz.prog 8 #[.int .u64 7] w fun e w' => e = .returned (.agg #[.int .u64 7, .int .u8 3]) ∧ Below w.heap.size w w' := by
  have hl : ∀ wx, Calls Ybaz.prog 17 #[.int .u64 7] wx fun e w' => e = .returned (.int .i64 3) ∧ w' = wx := fun wx => len64_any 7 wx (by omega) (by omega)
  go_enter Ybaz.func8, Ybaz.ntmps8
  go_wp2_with (go_at_call 17; refine (hl _).mono ?_; rintro e w' ⟨rfl, rfl⟩)
  refine bodyPost_ret (v := .agg #[.int .u64 7, .int .u8 3]) (by simp [results, Ybaz.results8, go_sem]; decide +kernel) rfl ⟨rfl, ?_⟩
  exact ((Below.refl _ w).alloc (Nat.le_refl _) _)

set_option maxRecDepth 100000 in
set_option maxHeartbeats 1000000 in
theorem labelOf_8 (w : World) : Calls Ybaz.prog 8 #[.int .u64 8] w fun e w' => e = .returned (.agg #[.int .u64 1, .int .u8 4]) ∧ Below w.heap.size w w' := by
  have hl : ∀ wx, Calls Ybaz.prog 17 #[.int .u64 8] wx fun e w' => e = .returned (.int .i64 4) ∧ w' = wx := fun wx => len64_any 8 wx (by omega) (by omega)
  go_enter Ybaz.func8, Ybaz.ntmps8
  go_wp2_with (go_at_call 17; refine (hl _).mono ?_; rintro e w' ⟨rfl, rfl⟩)
  refine bodyPost_ret (v := .agg #[.int .u64 1, .int .u8 4]) (by simp [results, Ybaz.results8, go_sem]; decide +kernel) rfl ⟨rfl, ?_⟩
  exact ((Below.refl _ w).alloc (Nat.le_refl _) _)

set_option maxRecDepth 100000 in
set_option maxHeartbeats 1000000 in
theorem labelOf_9 (w : World) : Calls Ybaz.prog 8 #[.int .u64 9] w fun e w' => e = .returned (.agg #[.int .u64 3, .int .u8 4]) ∧ Below w.heap.size w w' := by
  have hl : ∀ wx, Calls Ybaz.prog 17 #[.int .u64 9] wx fun e w' => e = .returned (.int .i64 4) ∧ w' = wx := fun wx => len64_any 9 wx (by omega) (by omega)
  go_enter Ybaz.func8, Ybaz.ntmps8
  go_wp2_with (go_at_call 17; refine (hl _).mono ?_; rintro e w' ⟨rfl, rfl⟩)
  refine bodyPost_ret (v := .agg #[.int .u64 3, .int .u8 4]) (by simp [results, Ybaz.results8, go_sem]; decide +kernel) rfl ⟨rfl, ?_⟩
  exact ((Below.refl _ w).alloc (Nat.le_refl _) _)

set_option maxRecDepth 100000 in
set_option maxHeartbeats 1000000 in
theorem labelOf_10 (w : World) : Calls Ybaz.prog 8 #[.int .u64 10] w fun e w' => e = .returned (.agg #[.int .u64 5, .int .u8 4]) ∧ Below w.heap.size w w' := by
  have hl : ∀ wx, Calls Ybaz.prog 17 #[.int .u64 10] wx fun e w' => e = .returned (.int .i64 4) ∧ w' = wx := fun wx => len64_any 10 wx (by omega) (by omega)
  go_enter Ybaz.func8, Ybaz.ntmps8
  go_wp2_with (go_at_call 17; refine (hl _).mono ?_; rintro e w' ⟨rfl, rfl⟩)
  refine bodyPost_ret (v := .agg #[.int .u64 5, .int .u8 4]) (by simp [results, Ybaz.results8, go_sem]; decide +kernel) rfl ⟨rfl, ?_⟩
  exact ((Below.refl _ w).alloc (Nat.le_refl _) _)

set_option maxRecDepth 100000 in
set_option maxHeartbeats 1000000 in
theorem labelOf_11 (w : World) : Calls Ybaz.prog 8 #[.int .u64 11] w fun e w' => e = .returned (.agg #[.int .u64 7, .int .u8 4]) ∧ Below w.heap.size w w' := by
  have hl : ∀ wx, Calls Ybaz.prog 17 #[.int .u64 11] wx fun e w' => e = .returned (.int .i64 4) ∧ w' = wx := fun wx => len64_any 11 wx (by omega) (by omega)
  go_enter Ybaz.func8, Ybaz.ntmps8
  go_wp2_with (go_at_call 17; refine (hl _).mono ?_; rintro e w' ⟨rfl, rfl⟩)
  refine bodyPost_ret (v := .agg #[.int .u64 7, .int .u8 4]) (by simp [results, Ybaz.results8, go_sem]; decide +kernel) rfl ⟨rfl, ?_⟩
  exact ((Below.refl _ w).alloc (Nat.le_refl _) _)

set_option maxRecDepth 100000 in
set_option maxHeartbeats 1000000 in
theorem labelOf_12 (w : World) : Calls Ybaz.prog 8 #[.int .u64 12] w fun e w' => e = .returned (.agg #[.int .u64 9, .int .u8 4]) ∧ Below w.heap.size w w' := by
  have hl : ∀ wx, Calls Ybaz.prog 17 #[.int .u64 12] wx fun e w' => e = .returned (.int .i64 4) ∧ w' = wx := fun wx => len64_any 12 wx (by omega) (by omega)
  go_enter Ybaz.func8, Ybaz.ntmps8
  go_wp2_with (go_at_call 17; refine (hl _).mono ?_; rintro e w' ⟨rfl, rfl⟩)
  refine bodyPost_ret (v := .agg #[.int .u64 9, .int .u8 4]) (by simp [results, Ybaz.results8, go_sem]; decide +kernel) rfl ⟨rfl, ?_⟩
  exact ((Below.refl _ w).alloc (Nat.le_refl _) _)

set_option maxRecDepth 100000 in
set_option maxHeartbeats 1000000 in
theorem labelOf_13 (w : World) : Calls Ybaz.prog 8 #[.int .u64 13] w fun e w' => e = .returned (.agg #[.int .u64 11, .int .u8 4]) ∧ Below w.heap.size w w' := by
  have hl : ∀ wx, Calls Ybaz.prog 17 #[.int .u64 13] wx fun e w' => e = .returned (.int .i64 4) ∧ w' = wx := fun wx => len64_any 13 wx (by omega) (by omega)
  go_enter Ybaz.func8, Ybaz.ntmps8
  go_wp2_with (go_at_call 17; refine (hl _).mono ?_; rintro e w' ⟨rfl, rfl⟩)
  refine bodyPost_ret (v := .agg #[.int .u64 11, .int .u8 4]) (by simp [results, Ybaz.results8, go_sem]; decide +kernel) rfl ⟨rfl, ?_⟩
  exact ((Below.refl _ w).alloc (Nat.le_refl _) _)

set_option maxRecDepth 100000 in
set_option maxHeartbeats 1000000 in
theorem labelOf_14 (w : World) : Calls Ybaz.prog 8 #[.int .u64 14] w fun e w' => e = .returned (.agg #[.int .u64 13, .int .u8 4]) ∧ Below w.heap.size w w' := by
  have hl : ∀ wx, Calls Ybaz.prog 17 #[.int .u64 14] wx fun e w' => e = .returned (.int .i64 4) ∧ w' = wx := fun wx => len64_any 14 wx (by omega) (by omega)
  go_enter Ybaz.func8, Ybaz.ntmps8
  go_wp2_with (go_at_call 17; refine (hl _).mono ?_; rintro e w' ⟨rfl, rfl⟩)
  refine bodyPost_ret (v := .agg #[.int .u64 13, .int .u8 4]) (by simp [results, Ybaz.results8, go_sem]; decide +kernel) rfl ⟨rfl, ?_⟩
  exact ((Below.refl _ w).alloc (Nat.le_refl _) _)

set_option maxRecDepth 100000 in
set_option maxHeartbeats 1000000 in
theorem labelOf_15 (w : World) : Calls Ybaz.prog 8 #[.int .u64 15] w fun e w' => e = .returned (.agg #[.int .u64 15, .int .u8 4]) ∧ Below w.heap.size w w' := by
  have hl : ∀ wx, Calls Ybaz.prog 17 #[.int .u64 15] wx fun e w' => e = .returned (.int .i64 4) ∧ w' = wx := fun wx => len64_any 15 wx (by omega) (by omega)
  go_enter Ybaz.func8, Ybaz.ntmps8
  go_wp2_with (go_at_call 17; refine (hl _).mono ?_; rintro e w' ⟨rfl, rfl⟩)
  refine bodyPost_ret (v := .agg #[.int .u64 15, .int .u8 4]) (by simp [results, Ybaz.results8, go_sem]; decide +kernel) rfl ⟨rfl, ?_⟩
  exact ((Below.refl _ w).alloc (Nat.le_refl _) _)

set_option maxRecDepth 100000 in
set_option maxHeartbeats 1000000 in
theorem labelOf_16 (w : World) : Calls Ybaz.prog 8 #[.int .u64 16] w fun e w' => e = .returned (.agg #[.int .u64 1, .int .u8 5]) ∧ Below w.heap.size w w' := by
  have hl : ∀ wx, Calls Ybaz.prog 17 #[.int .u64 16] wx fun e w' => e = .returned (.int .i64 5) ∧ w' = wx := fun wx => len64_any 16 wx (by omega) (by omega)
  go_enter Ybaz.func8, Ybaz.ntmps8
  go_wp2_with (go_at_call 17; refine (hl _).mono ?_; rintro e w' ⟨rfl, rfl⟩)
  refine bodyPost_ret (v := .agg #[.int .u64 1, .int .u8 5]) (by simp [results, Ybaz.results8, go_sem]; decide +kernel) rfl ⟨rfl, ?_⟩
  exact ((Below.refl _ w).alloc (Nat.le_refl _) _)

set_option maxRecDepth 100000 in
set_option maxHeartbeats 1000000 in
theorem labelOf_17 (w : World) : Calls Ybaz.prog 8 #[.int .u64 17] w fun e w' => e = .returned (.agg #[.int .u64 3, .int .u8 5]) ∧ Below w.heap.size w w' := by
  have hl : ∀ wx, Calls Ybaz.prog 17 #[.int .u64 17] wx fun e w' => e = .returned (.int .i64 5) ∧ w' = wx := fun wx => len64_any 17 wx (by omega) (by omega)
  go_enter Ybaz.func8, Ybaz.ntmps8
  go_wp2_with (go_at_call 17; refine (hl _).mono ?_; rintro e w' ⟨rfl, rfl⟩)
  refine bodyPost_ret (v := .agg #[.int .u64 3, .int .u8 5]) (by simp [results, Ybaz.results8, go_sem]; decide +kernel) rfl ⟨rfl, ?_⟩
  exact ((Below.refl _ w).alloc (Nat.le_refl _) _)

set_option maxRecDepth 100000 in
set_option maxHeartbeats 1000000 in
theorem labelOf_18 (w : World) : Calls Ybaz.prog 8 #[.int .u64 18] w fun e w' => e = .returned (.agg #[.int .u64 5, .int .u8 5]) ∧ Below w.heap.size w w' := by
  have hl : ∀ wx, Calls Ybaz.prog 17 #[.int .u64 18] wx fun e w' => e = .returned (.int .i64 5) ∧ w' = wx := fun wx => len64_any 18 wx (by omega) (by omega)
  go_enter Ybaz.func8, Ybaz.ntmps8
  go_wp2_with (go_at_call 17; refine (hl _).mono ?_; rintro e w' ⟨rfl, rfl⟩)
  refine bodyPost_ret (v := .agg #[.int .u64 5, .int .u8 5]) (by simp [results, Ybaz.results8, go_sem]; decide +kernel) rfl ⟨rfl, ?_⟩
  exact ((Below.refl _ w).alloc (Nat.le_refl _) _)

set_option maxRecDepth 100000 in
set_option maxHeartbeats 1000000 in
theorem labelOf_19 (w : World) : Calls Ybaz.prog 8 #[.int .u64 19] w fun e w' => e = .returned (.agg #[.int .u64 7, .int .u8 5]) ∧ Below w.heap.size w w' := by
  have hl : ∀ wx, Calls Ybaz.prog 17 #[.int .u64 19] wx fun e w' => e = .returned (.int .i64 5) ∧ w' = wx := fun wx => len64_any 19 wx (by omega) (by omega)
  go_enter Ybaz.func8, Ybaz.ntmps8
  go_wp2_with (go_at_call 17; refine (hl _).mono ?_; rintro e w' ⟨rfl, rfl⟩)
  refine bodyPost_ret (v := .agg #[.int .u64 7, .int .u8 5]) (by simp [results, Ybaz.results8, go_sem]; decide +kernel) rfl ⟨rfl, ?_⟩
  exact ((Below.refl _ w).alloc (Nat.le_refl _) _)

set_option maxRecDepth 100000 in
set_option maxHeartbeats 1000000 in
theorem labelOf_20 (w : World) : Calls Ybaz.prog 8 #[.int .u64 20] w fun e w' => e = .returned (.agg #[.int .u64 9, .int .u8 5]) ∧ Below w.heap.size w w' := by
  have hl : ∀ wx, Calls Ybaz.prog 17 #[.int .u64 20] wx fun e w' => e = .returned (.int .i64 5) ∧ w' = wx := fun wx => len64_any 20 wx (by omega) (by omega)
  go_enter Ybaz.func8, Ybaz.ntmps8
  go_wp2_with (go_at_call 17; refine (hl _).mono ?_; rintro e w' ⟨rfl, rfl⟩)
  refine bodyPost_ret (v := .agg #[.int .u64 9, .int .u8 5]) (by simp [results, Ybaz.results8, go_sem]; decide +kernel) rfl ⟨rfl, ?_⟩
  exact ((Below.refl _ w).alloc (Nat.le_refl _) _)

set_option maxRecDepth 100000 in
set_option maxHeartbeats 1000000 in
theorem labelOf_21 (w : World) : Calls Ybaz.prog 8 #[.int .u64 21] w fun e w' => e = .returned (.agg #[.int .u64 11, .int .u8 5]) ∧ Below w.heap.size w w' := by
  have hl : ∀ wx, Calls Ybaz.prog 17 #[.int .u64 21] wx fun e w' => e = .returned (.int .i64 5) ∧ w' = wx := fun wx => len64_any 21 wx (by omega) (by omega)
  go_enter Ybaz.func8, Ybaz.ntmps8
  go_wp2_with (go_at_call 17; refine (hl _).mono ?_; rintro e w' ⟨rfl, rfl⟩)
  refine bodyPost_ret (v := .agg #[.int .u64 11, .int .u8 5]) (by simp [results, Ybaz.results8, go_sem]; decide +kernel) rfl ⟨rfl, ?_⟩
  exact ((Below.refl _ w).alloc (Nat.le_refl _) _)

set_option maxRecDepth 100000 in
set_option maxHeartbeats 1000000 in
theorem labelOf_22 (w : World) : Calls Ybaz.prog 8 #[.int .u64 22] w fun e w' => e = .returned (.agg #[.int .u64 13, .int .u8 5]) ∧ Below w.heap.size w w' := by
  have hl : ∀ wx, Calls Ybaz.prog 17 #[.int .u64 22] wx fun e w' => e = .returned (.int .i64 5) ∧ w' = wx := fun wx => len64_any 22 wx (by omega) (by omega)
  go_enter Ybaz.func8, Ybaz.ntmps8
  go_wp2_with (go_at_call 17; refine (hl _).mono ?_; rintro e w' ⟨rfl, rfl⟩)
  refine bodyPost_ret (v := .agg #[.int .u64 13, .int .u8 5]) (by simp [results, Ybaz.results8, go_sem]; decide +kernel) rfl ⟨rfl, ?_⟩
  exact ((Below.refl _ w).alloc (Nat.le_refl _) _)

set_option maxRecDepth 100000 in
set_option maxHeartbeats 1000000 in
theorem labelOf_23 (w : World) : Calls Ybaz.prog 8 #[.int .u64 23] w fun e w' => e = .returned (.agg #[.int .u64 15, .int .u8 5]) ∧ Below w.heap.size w w' := by
  have hl : ∀ wx, Calls Ybaz.prog 17 #[.int .u64 23] wx fun e w' => e = .returned (.int .i64 5) ∧ w' = wx := fun wx => len64_any 23 wx (by omega) (by omega)
  go_enter Ybaz.func8, Ybaz.ntmps8
  go_wp2_with (go_at_call 17; refine (hl _).mono ?_; rintro e w' ⟨rfl, rfl⟩)
  refine bodyPost_ret (v := .agg #[.int .u64 15, .int .u8 5]) (by simp [results, Ybaz.results8, go_sem]; decide +kernel) rfl ⟨rfl, ?_⟩
  exact ((Below.refl _ w).alloc (Nat.le_refl _) _)

set_option maxRecDepth 100000 in
set_option maxHeartbeats 1000000 in
theorem labelOf_24 (w : World) : Calls Ybaz.prog 8 #[.int .u64 24] w fun e w' => e = .returned (.agg #[.int .u64 17, .int .u8 5]) ∧ Below w.heap.size w w' := by
  have hl : ∀ wx, Calls Ybaz.prog 17 #[.int .u64 24] wx fun e w' => e = .returned (.int .i64 5) ∧ w' = wx := fun wx => len64_any 24 wx (by omega) (by omega)
  go_enter Ybaz.func8, Ybaz.ntmps8
  go_wp2_with (go_at_call 17; refine (hl _).mono ?_; rintro e w' ⟨rfl, rfl⟩)
  refine bodyPost_ret (v := .agg #[.int .u64 17, .int .u8 5]) (by simp [results, Ybaz.results8, go_sem]; decide +kernel) rfl ⟨rfl, ?_⟩
  exact ((Below.refl _ w).alloc (Nat.le_refl _) _)

set_option maxRecDepth 100000 in
set_option maxHeartbeats 1000000 in
theorem labelOf_25 (w : World) : Calls Ybaz.prog 8 #[.int .u64 25] w fun e w' => e = .returned (.agg #[.int .u64 19, .int .u8 5]) ∧ Below w.heap.size w w' := by
  have hl : ∀ wx, Calls Ybaz.prog 17 #[.int .u64 25] wx fun e w' => e = .returned (.int .i64 5) ∧ w' = wx := fun wx => len64_any 25 wx (by omega) (by omega)
  go_enter Ybaz.func8, Ybaz.ntmps8
  go_wp2_with (go_at_call 17; refine (hl _).mono ?_; rintro e w' ⟨rfl, rfl⟩)
  refine bodyPost_ret (v := .agg #[.int .u64 19, .int .u8 5]) (by simp [results, Ybaz.results8, go_sem]; decide +kernel) rfl ⟨rfl, ?_⟩
  exact ((Below.refl _ w).alloc (Nat.le_refl _) _)

set_option maxRecDepth 100000 in
set_option maxHeartbeats 1000000 in
theorem labelOf_26 (w : World) : Calls Ybaz.prog 8 #[.int .u64 26] w fun e w' => e = .returned (.agg #[.int .u64 21, .int .u8 5]) ∧ Below w.heap.size w w' := by
  have hl : ∀ wx, Calls Ybaz.prog 17 #[.int .u64 26] wx fun e w' => e = .returned (.int .i64 5) ∧ w' = wx := fun wx => len64_any 26 wx (by omega) (by omega)
  go_enter Ybaz.func8, Ybaz.ntmps8
  go_wp2_with (go_at_call 17; refine (hl _).mono ?_; rintro e w' ⟨rfl, rfl⟩)
  refine bodyPost_ret (v := .agg #[.int .u64 21, .int .u8 5]) (by simp [results, Ybaz.results8, go_sem]; decide +kernel) rfl ⟨rfl, ?_⟩
  exact ((Below.refl _ w).alloc (Nat.le_refl _) _)

set_option maxRecDepth 100000 in
set_option maxHeartbeats 1000000 in
theorem labelOf_27 (w : World) : Calls Ybaz.prog 8 #[.int .u64 27] w fun e w' => e = .returned (.agg #[.int .u64 23, .int .u8 5]) ∧ Below w.heap.size w w' := by
  have hl : ∀ wx, Calls Ybaz.prog 17 #[.int .u64 27] wx fun e w' => e = .returned (.int .i64 5) ∧ w' = wx := fun wx => len64_any 27 wx (by omega) (by omega)
  go_enter Ybaz.func8, Ybaz.ntmps8
  go_wp2_with (go_at_call 17; refine (hl _).mono ?_; rintro e w' ⟨rfl, rfl⟩)
  refine bodyPost_ret (v := .agg #[.int .u64 23, .int .u8 5]) (by simp [results, Ybaz.results8, go_sem]; decide +kernel) rfl ⟨rfl, ?_⟩
  exact ((Below.refl _ w).alloc (Nat.le_refl _) _)

set_option maxRecDepth 100000 in
set_option maxHeartbeats 1000000 in
theorem labelOf_28 (w : World) : Calls Ybaz.prog 8 #[.int .u64 28] w fun e w' => e = .returned (.agg #[.int .u64 25, .int .u8 5]) ∧ Below w.heap.size w w' := by
  have hl : ∀ wx, Calls Ybaz.prog 17 #[.int .u64 28] wx fun e w' => e = .returned (.int .i64 5) ∧ w' = wx := fun wx => len64_any 28 wx (by omega) (by omega)
  go_enter Ybaz.func8, Ybaz.ntmps8
  go_wp2_with (go_at_call 17; refine (hl _).mono ?_; rintro e w' ⟨rfl, rfl⟩)
  refine bodyPost_ret (v := .agg #[.int .u64 25, .int .u8 5]) (by simp [results, Ybaz.results8, go_sem]; decide +kernel) rfl ⟨rfl, ?_⟩
  exact ((Below.refl _ w).alloc (Nat.le_refl _) _)

set_option maxRecDepth 100000 in
set_option maxHeartbeats 1000000 in
theorem labelOf_29 (w : World) : Calls Ybaz.prog 8 #[.int .u64 29] w fun e w' => e = .returned (.agg #[.int .u64 27, .int .u8 5]) ∧ Below w.heap.size w w' := by
  have hl : ∀ wx, Calls Ybaz.prog 17 #[.int .u64 29] wx fun e w' => e = .returned (.int .i64 5) ∧ w' = wx := fun wx => len64_any 29 wx (by omega) (by omega)
  go_enter Ybaz.func8, Ybaz.ntmps8
  go_wp2_with (go_at_call 17; refine (hl _).mono ?_; rintro e w' ⟨rfl, rfl⟩)
  refine bodyPost_ret (v := .agg #[.int .u64 27, .int .u8 5]) (by simp [results, Ybaz.results8, go_sem]; decide +kernel) rfl ⟨rfl, ?_⟩
  exact ((Below.refl _ w).alloc (Nat.le_refl _) _)

set_option maxRecDepth 100000 in
set_option maxHeartbeats 1000000 in
theorem labelOf_30 (w : World) : Calls Ybaz.prog 8 #[.int .u64 30] w fun e w' => e = .returned (.agg #[.int .u64 29, .int .u8 5]) ∧ Below w.heap.size w w' := by
  have hl : ∀ wx, Calls Ybaz.prog 17 #[.int .u64 30] wx fun e w' => e = .returned (.int .i64 5) ∧ w' = wx := fun wx => len64_any 30 wx (by omega) (by omega)
  go_enter Ybaz.func8, Ybaz.ntmps8
  go_wp2_with (go_at_call 17; refine (hl _).mono ?_; rintro e w' ⟨rfl, rfl⟩)
  refine bodyPost_ret (v := .agg #[.int .u64 29, .int .u8 5]) (by simp [results, Ybaz.results8, go_sem]; decide +kernel) rfl ⟨rfl, ?_⟩
  exact ((Below.refl _ w).alloc (Nat.le_refl _) _)

set_option maxRecDepth 100000 in
set_option maxHeartbeats 1000000 in
theorem labelOf_31 (w : World) : Calls Ybaz.prog 8 #[.int .u64 31] w fun e w' => e = .returned (.agg #[.int .u64 31, .int .u8 5]) ∧ Below w.heap.size w w' := by
  have hl : ∀ wx, Calls Ybaz.prog 17 #[.int .u64 31] wx fun e w' => e = .returned (.int .i64 5) ∧ w' = wx := fun wx => len64_any 31 wx (by omega) (by omega)
  go_enter Ybaz.func8, Ybaz.ntmps8
  go_wp2_with (go_at_call 17; refine (hl _).mono ?_; rintro e w' ⟨rfl, rfl⟩)
  refine bodyPost_ret (v := .agg #[.int .u64 31, .int .u8 5]) (by simp [results, Ybaz.results8, go_sem]; decide +kernel) rfl ⟨rfl, ?_⟩
  exact ((Below.refl _ w).alloc (Nat.le_refl _) _)

set_option maxRecDepth 100000 in
set_option maxHeartbeats 1000000 in
theorem labelOf_32 (w : World) : Calls Ybaz.prog 8 #[.int .u64 32] w fun e w' => e = .returned (.agg #[.int .u64 1, .int .u8 6]) ∧ Below w.heap.size w w' := by
  have hl : ∀ wx, Calls Ybaz.prog 17 #[.int .u64 32] wx fun e w' => e = .returned (.int .i64 6) ∧ w' = wx := fun wx => len64_any 32 wx (by omega) (by omega)
  go_enter Ybaz.func8, Ybaz.ntmps8
  go_wp2_with (go_at_call 17; refine (hl _).mono ?_; rintro e w' ⟨rfl, rfl⟩)
  refine bodyPost_ret (v := .agg #[.int .u64 1, .int .u8 6]) (by simp [results, Ybaz.results8, go_sem]; decide +kernel) rfl ⟨rfl, ?_⟩
  exact ((Below.refl _ w).alloc (Nat.le_refl _) _)

set_option maxRecDepth 100000 in
set_option maxHeartbeats 1000000 in
theorem labelOf_33 (w : World) : Calls Ybaz.prog 8 #[.int .u64 33] w fun e w' => e = .returned (.agg #[.int .u64 3, .int .u8 6]) ∧ Below w.heap.size w w' := by
  have hl : ∀ wx, Calls Ybaz.prog 17 #[.int .u64 33] wx fun e w' => e = .returned (.int .i64 6) ∧ w' = wx := fun wx => len64_any 33 wx (by omega) (by omega)
  go_enter Ybaz.func8, Ybaz.ntmps8
  go_wp2_with (go_at_call 17; refine (hl _).mono ?_; rintro e w' ⟨rfl, rfl⟩)
  refine bodyPost_ret (v := .agg #[.int .u64 3, .int .u8 6]) (by simp [results, Ybaz.results8, go_sem]; decide +kernel) rfl ⟨rfl, ?_⟩
  exact ((Below.refl _ w).alloc (Nat.le_refl _) _)

set_option maxRecDepth 100000 in
set_option maxHeartbeats 1000000 in
theorem labelOf_34 (w : World) : Calls Ybaz.prog 8 #[.int .u64 34] w fun e w' => e = .returned (.agg #[.int .u64 5, .int .u8 6]) ∧ Below w.heap.size w w' := by
  have hl : ∀ wx, Calls Ybaz.prog 17 #[.int .u64 34] wx fun e w' => e = .returned (.int .i64 6) ∧ w' = wx := fun wx => len64_any 34 wx (by omega) (by omega)
  go_enter Ybaz.func8, Ybaz.ntmps8
  go_wp2_with (go_at_call 17; refine (hl _).mono ?_; rintro e w' ⟨rfl, rfl⟩)
  refine bodyPost_ret (v := .agg #[.int .u64 5, .int .u8 6]) (by simp [results, Ybaz.results8, go_sem]; decide +kernel) rfl ⟨rfl, ?_⟩
  exact ((Below.refl _ w).alloc (Nat.le_refl _) _)

set_option maxRecDepth 100000 in
set_option maxHeartbeats 1000000 in
theorem labelOf_35 (w : World) : Calls Ybaz.prog 8 #[.int .u64 35] w fun e w' => e = .returned (.agg #[.int .u64 7, .int .u8 6]) ∧ Below w.heap.size w w' := by
  have hl : ∀ wx, Calls Ybaz.prog 17 #[.int .u64 35] wx fun e w' => e = .returned (.int .i64 6) ∧ w' = wx := fun wx => len64_any 35 wx (by omega) (by omega)
  go_enter Ybaz.func8, Ybaz.ntmps8
  go_wp2_with (go_at_call 17; refine (hl _).mono ?_; rintro e w' ⟨rfl, rfl⟩)
  refine bodyPost_ret (v := .agg #[.int .u64 7, .int .u8 6]) (by simp [results, Ybaz.results8, go_sem]; decide +kernel) rfl ⟨rfl, ?_⟩
  exact ((Below.refl _ w).alloc (Nat.le_refl _) _)

set_option maxRecDepth 100000 in
set_option maxHeartbeats 1000000 in
theorem labelOf_36 (w : World) : Calls Ybaz.prog 8 #[.int .u64 36] w fun e w' => e = .returned (.agg #[.int .u64 9, .int .u8 6]) ∧ Below w.heap.size w w' := by
  have hl : ∀ wx, Calls Ybaz.prog 17 #[.int .u64 36] wx fun e w' => e = .returned (.int .i64 6) ∧ w' = wx := fun wx => len64_any 36 wx (by omega) (by omega)
  go_enter Ybaz.func8, Ybaz.ntmps8
  go_wp2_with (go_at_call 17; refine (hl _).mono ?_; rintro e w' ⟨rfl, rfl⟩)
  refine bodyPost_ret (v := .agg #[.int .u64 9, .int .u8 6]) (by simp [results, Ybaz.results8, go_sem]; decide +kernel) rfl ⟨rfl, ?_⟩
  exact ((Below.refl _ w).alloc (Nat.le_refl _) _)

set_option maxRecDepth 100000 in
set_option maxHeartbeats 1000000 in
theorem labelOf_37 (w : World) : Calls Ybaz.prog 8 #[.int .u64 37] w fun e w' => e = .returned (.agg #[.int .u64 11, .int .u8 6]) ∧ Below w.heap.size w w' := by
  have hl : ∀ wx, Calls Ybaz.prog 17 #[.int .u64 37] wx fun e w' => e = .returned (.int .i64 6) ∧ w' = wx := fun wx => len64_any 37 wx (by omega) (by omega)
  go_enter Ybaz.func8, Ybaz.ntmps8
  go_wp2_with (go_at_call 17; refine (hl _).mono ?_; rintro e w' ⟨rfl, rfl⟩)
  refine bodyPost_ret (v := .agg #[.int .u64 11, .int .u8 6]) (by simp [results, Ybaz.results8, go_sem]; decide +kernel) rfl ⟨rfl, ?_⟩
  exact ((Below.refl _ w).alloc (Nat.le_refl _) _)

set_option maxRecDepth 100000 in
set_option maxHeartbeats 1000000 in
theorem labelOf_38 (w : World) : Calls Ybaz.prog 8 #[.int .u64 38] w fun e w' => e = .returned (.agg #[.int .u64 13, .int .u8 6]) ∧ Below w.heap.size w w' := by
  have hl : ∀ wx, Calls Ybaz.prog 17 #[.int .u64 38] wx fun e w' => e = .returned (.int .i64 6) ∧ w' = wx := fun wx => len64_any 38 wx (by omega) (by omega)
  go_enter Ybaz.func8, Ybaz.ntmps8
  go_wp2_with (go_at_call 17; refine (hl _).mono ?_; rintro e w' ⟨rfl, rfl⟩)
  refine bodyPost_ret (v := .agg #[.int .u64 13, .int .u8 6]) (by simp [results, Ybaz.results8, go_sem]; decide +kernel) rfl ⟨rfl, ?_⟩
  exact ((Below.refl _ w).alloc (Nat.le_refl _) _)

set_option maxRecDepth 100000 in
set_option maxHeartbeats 1000000 in
theorem labelOf_39 (w : World) : Calls Ybaz.prog 8 #[.int .u64 39] w fun e w' => e = .returned (.agg #[.int .u64 15, .int .u8 6]) ∧ Below w.heap.size w w' := by
  have hl : ∀ wx, Calls Ybaz.prog 17 #[.int .u64 39] wx fun e w' => e = .returned (.int .i64 6) ∧ w' = wx := fun wx => len64_any 39 wx (by omega) (by omega)
  go_enter Ybaz.func8, Ybaz.ntmps8
  go_wp2_with (go_at_call 17; refine (hl _).mono ?_; rintro e w' ⟨rfl, rfl⟩)
  refine bodyPost_ret (v := .agg #[.int .u64 15, .int .u8 6]) (by simp [results, Ybaz.results8, go_sem]; decide +kernel) rfl ⟨rfl, ?_⟩
  exact ((Below.refl _ w).alloc (Nat.le_refl _) _)

theorem labelOf_any (x : Nat) (hx : x < 40) (w : World) : Calls Ybaz.prog 8 #[.int .u64 x] w fun e w' => e = .returned (.agg #[.int .u64 (lb x), .int .u8 (ln x)]) ∧ Below w.heap.size w w' := by
  match x, hx with
  | 0, _ => exact labelOf_0 w
  | 1, _ => exact labelOf_1 w
  | 2, _ => exact labelOf_2 w
  | 3, _ => exact labelOf_3 w
  | 4, _ => exact labelOf_4 w
  | 5, _ => exact labelOf_5 w
  | 6, _ => exact labelOf_6 w
  | 7, _ => exact labelOf_7 w
  | 8, _ => exact labelOf_8 w
  | 9, _ => exact labelOf_9 w
  | 10, _ => exact labelOf_10 w
  | 11, _ => exact labelOf_11 w
  | 12, _ => exact labelOf_12 w
  | 13, _ => exact labelOf_13 w
  | 14, _ => exact labelOf_14 w
  | 15, _ => exact labelOf_15 w
  | 16, _ => exact labelOf_16 w
  | 17, _ => exact labelOf_17 w
  | 18, _ => exact labelOf_18 w
  | 19, _ => exact labelOf_19 w
  | 20, _ => exact labelOf_20 w
  | 21, _ => exact labelOf_21 w
  | 22, _ => exact labelOf_22 w
  | 23, _ => exact labelOf_23 w
  | 24, _ => exact labelOf_24 w
  | 25, _ => exact labelOf_25 w
  | 26, _ => exact labelOf_26 w
  | 27, _ => exact labelOf_27 w
  | 28, _ => exact labelOf_28 w
  | 29, _ => exact labelOf_29 w
  | 30, _ => exact labelOf_30 w
  | 31, _ => exact labelOf_31 w
  | 32, _ => exact labelOf_32 w
  | 33, _ => exact labelOf_33 w
  | 34, _ => exact labelOf_34 w
  | 35, _ => exact labelOf_35 w
  | 36, _ => exact labelOf_36 w
  | 37, _ => exact labelOf_37 w
  | 38, _ => exact labelOf_38 w
  | 39, _ => exact labelOf_39 w
  | k + 40, h => exact absurd h (by omega)

end Go.Proofs.YbulkclxkGreat.lab
