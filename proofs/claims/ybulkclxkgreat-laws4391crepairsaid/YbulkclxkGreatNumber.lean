/-
  (Label).number at l(0) to l(39).
-/
import Derived.Test.YbulkclxkGreatLabelOf
namespace Go.Proofs.YbulkclxkGreat.lab
open Go.ChangeShapes Go.WideShapes Go.ChangeAt Go.RowKit
set_option linter.unusedVariables false

set_option maxRecDepth 100000 in
set_option maxHeartbeats 1000000 in
theorem number_0 (w : World) : Calls Ybaz.prog 60 #[.agg #[.int .u64 0, .int .u8 1]] w fun e w' => e = .returned (.tuple #[.int .u64 0, .bool true]) ∧ Below w.heap.size w w' := by
  go_enter Ybaz.func60, Ybaz.ntmps60
  go_wp2
  go_ret2
  exact ⟨rfl, (Below.refl _ w).alloc (Nat.le_refl _) _⟩

set_option maxRecDepth 100000 in
set_option maxHeartbeats 1000000 in
theorem number_1 (w : World) : Calls Ybaz.prog 60 #[.agg #[.int .u64 1, .int .u8 1]] w fun e w' => e = .returned (.tuple #[.int .u64 1, .bool true]) ∧ Below w.heap.size w w' := by
  go_enter Ybaz.func60, Ybaz.ntmps60
  go_wp2
  go_ret2
  exact ⟨rfl, (Below.refl _ w).alloc (Nat.le_refl _) _⟩

set_option maxRecDepth 100000 in
set_option maxHeartbeats 1000000 in
theorem number_2 (w : World) : Calls Ybaz.prog 60 #[.agg #[.int .u64 1, .int .u8 2]] w fun e w' => e = .returned (.tuple #[.int .u64 2, .bool true]) ∧ Below w.heap.size w w' := by
  go_enter Ybaz.func60, Ybaz.ntmps60
  go_wp2
  go_ret2
  exact ⟨rfl, (Below.refl _ w).alloc (Nat.le_refl _) _⟩

set_option maxRecDepth 100000 in
set_option maxHeartbeats 1000000 in
theorem number_3 (w : World) : Calls Ybaz.prog 60 #[.agg #[.int .u64 3, .int .u8 2]] w fun e w' => e = .returned (.tuple #[.int .u64 3, .bool true]) ∧ Below w.heap.size w w' := by
  go_enter Ybaz.func60, Ybaz.ntmps60
  go_wp2
  go_ret2
  exact ⟨rfl, (Below.refl _ w).alloc (Nat.le_refl _) _⟩

set_option maxRecDepth 100000 in
set_option maxHeartbeats 1000000 in
theorem number_4 (w : World) : Calls Ybaz.prog 60 #[.agg #[.int .u64 1, .int .u8 3]] w fun e w' => e = .returned (.tuple #[.int .u64 4, .bool true]) ∧ Below w.heap.size w w' := by
  go_enter Ybaz.func60, Ybaz.ntmps60
  go_wp2
  go_ret2
  exact ⟨rfl, (Below.refl _ w).alloc (Nat.le_refl _) _⟩

set_option maxRecDepth 100000 in
set_option maxHeartbeats 1000000 in
theorem number_5 (w : World) : Calls Ybaz.prog 60 #[.agg #[.int .u64 3, .int .u8 3]] w fun e w' => e = .returned (.tuple #[.int .u64 5, .bool true]) ∧ Below w.heap.size w w' := by
  go_enter Ybaz.func60, Ybaz.ntmps60
  go_wp2
  go_ret2
  exact ⟨rfl, (Below.refl _ w).alloc (Nat.le_refl _) _⟩

set_option maxRecDepth 100000 in
set_option maxHeartbeats 1000000 in
theorem number_6 (w : World) : Calls Ybaz.prog 60 #[.agg #[.int .u64 5, .int .u8 3]] w fun e w' => e = .returned (.tuple #[.int .u64 6, .bool true]) ∧ Below w.heap.size w w' := by
  go_enter Ybaz.func60, Ybaz.ntmps60
  go_wp2
  go_ret2
  exact ⟨rfl, (Below.refl _ w).alloc (Nat.le_refl _) _⟩

set_option maxRecDepth 100000 in
set_option maxHeartbeats 1000000 in
theorem number_7 (w : World) : Calls Ybaz.prog 60 #[.agg #[.int .u64 7, .int .u8 3]] w fun e w' => e = .returned (.tuple #[.int .u64 7, .bool true]) ∧ Below w.heap.size w w' := by
  go_enter Ybaz.func60, Ybaz.ntmps60
  go_wp2
  go_ret2
  exact ⟨rfl, (Below.refl _ w).alloc (Nat.le_refl _) _⟩

set_option maxRecDepth 100000 in
set_option maxHeartbeats 1000000 in
theorem number_8 (w : World) : Calls Ybaz.prog 60 #[.agg #[.int .u64 1, .int .u8 4]] w fun e w' => e = .returned (.tuple #[.int .u64 8, .bool true]) ∧ Below w.heap.size w w' := by
  go_enter Ybaz.func60, Ybaz.ntmps60
  go_wp2
  go_ret2
  exact ⟨rfl, (Below.refl _ w).alloc (Nat.le_refl _) _⟩

set_option maxRecDepth 100000 in
set_option maxHeartbeats 1000000 in
theorem number_9 (w : World) : Calls Ybaz.prog 60 #[.agg #[.int .u64 3, .int .u8 4]] w fun e w' => e = .returned (.tuple #[.int .u64 9, .bool true]) ∧ Below w.heap.size w w' := by
  go_enter Ybaz.func60, Ybaz.ntmps60
  go_wp2
  go_ret2
  exact ⟨rfl, (Below.refl _ w).alloc (Nat.le_refl _) _⟩

set_option maxRecDepth 100000 in
set_option maxHeartbeats 1000000 in
theorem number_10 (w : World) : Calls Ybaz.prog 60 #[.agg #[.int .u64 5, .int .u8 4]] w fun e w' => e = .returned (.tuple #[.int .u64 10, .bool true]) ∧ Below w.heap.size w w' := by
  go_enter Ybaz.func60, Ybaz.ntmps60
  go_wp2
  go_ret2
  exact ⟨rfl, (Below.refl _ w).alloc (Nat.le_refl _) _⟩

set_option maxRecDepth 100000 in
set_option maxHeartbeats 1000000 in
theorem number_11 (w : World) : Calls Ybaz.prog 60 #[.agg #[.int .u64 7, .int .u8 4]] w fun e w' => e = .returned (.tuple #[.int .u64 11, .bool true]) ∧ Below w.heap.size w w' := by
  go_enter Ybaz.func60, Ybaz.ntmps60
  go_wp2
  go_ret2
  exact ⟨rfl, (Below.refl _ w).alloc (Nat.le_refl _) _⟩

set_option maxRecDepth 100000 in
set_option maxHeartbeats 1000000 in
theorem number_12 (w : World) : Calls Ybaz.prog 60 #[.agg #[.int .u64 9, .int .u8 4]] w fun e w' => e = .returned (.tuple #[.int .u64 12, .bool true]) ∧ Below w.heap.size w w' := by
  go_enter Ybaz.func60, Ybaz.ntmps60
  go_wp2
  go_ret2
  exact ⟨rfl, (Below.refl _ w).alloc (Nat.le_refl _) _⟩

set_option maxRecDepth 100000 in
set_option maxHeartbeats 1000000 in
theorem number_13 (w : World) : Calls Ybaz.prog 60 #[.agg #[.int .u64 11, .int .u8 4]] w fun e w' => e = .returned (.tuple #[.int .u64 13, .bool true]) ∧ Below w.heap.size w w' := by
  go_enter Ybaz.func60, Ybaz.ntmps60
  go_wp2
  go_ret2
  exact ⟨rfl, (Below.refl _ w).alloc (Nat.le_refl _) _⟩

set_option maxRecDepth 100000 in
set_option maxHeartbeats 1000000 in
theorem number_14 (w : World) : Calls Ybaz.prog 60 #[.agg #[.int .u64 13, .int .u8 4]] w fun e w' => e = .returned (.tuple #[.int .u64 14, .bool true]) ∧ Below w.heap.size w w' := by
  go_enter Ybaz.func60, Ybaz.ntmps60
  go_wp2
  go_ret2
  exact ⟨rfl, (Below.refl _ w).alloc (Nat.le_refl _) _⟩

set_option maxRecDepth 100000 in
set_option maxHeartbeats 1000000 in
theorem number_15 (w : World) : Calls Ybaz.prog 60 #[.agg #[.int .u64 15, .int .u8 4]] w fun e w' => e = .returned (.tuple #[.int .u64 15, .bool true]) ∧ Below w.heap.size w w' := by
  go_enter Ybaz.func60, Ybaz.ntmps60
  go_wp2
  go_ret2
  exact ⟨rfl, (Below.refl _ w).alloc (Nat.le_refl _) _⟩

set_option maxRecDepth 100000 in
set_option maxHeartbeats 1000000 in
theorem number_16 (w : World) : Calls Ybaz.prog 60 #[.agg #[.int .u64 1, .int .u8 5]] w fun e w' => e = .returned (.tuple #[.int .u64 16, .bool true]) ∧ Below w.heap.size w w' := by
  go_enter Ybaz.func60, Ybaz.ntmps60
  go_wp2
  go_ret2
  exact ⟨rfl, (Below.refl _ w).alloc (Nat.le_refl _) _⟩

set_option maxRecDepth 100000 in
set_option maxHeartbeats 1000000 in
theorem number_17 (w : World) : Calls Ybaz.prog 60 #[.agg #[.int .u64 3, .int .u8 5]] w fun e w' => e = .returned (.tuple #[.int .u64 17, .bool true]) ∧ Below w.heap.size w w' := by
  go_enter Ybaz.func60, Ybaz.ntmps60
  go_wp2
  go_ret2
  exact ⟨rfl, (Below.refl _ w).alloc (Nat.le_refl _) _⟩

set_option maxRecDepth 100000 in
set_option maxHeartbeats 1000000 in
theorem number_18 (w : World) : Calls Ybaz.prog 60 #[.agg #[.int .u64 5, .int .u8 5]] w fun e w' => e = .returned (.tuple #[.int .u64 18, .bool true]) ∧ Below w.heap.size w w' := by
  go_enter Ybaz.func60, Ybaz.ntmps60
  go_wp2
  go_ret2
  exact ⟨rfl, (Below.refl _ w).alloc (Nat.le_refl _) _⟩

set_option maxRecDepth 100000 in
set_option maxHeartbeats 1000000 in
theorem number_19 (w : World) : Calls Ybaz.prog 60 #[.agg #[.int .u64 7, .int .u8 5]] w fun e w' => e = .returned (.tuple #[.int .u64 19, .bool true]) ∧ Below w.heap.size w w' := by
  go_enter Ybaz.func60, Ybaz.ntmps60
  go_wp2
  go_ret2
  exact ⟨rfl, (Below.refl _ w).alloc (Nat.le_refl _) _⟩

set_option maxRecDepth 100000 in
set_option maxHeartbeats 1000000 in
theorem number_20 (w : World) : Calls Ybaz.prog 60 #[.agg #[.int .u64 9, .int .u8 5]] w fun e w' => e = .returned (.tuple #[.int .u64 20, .bool true]) ∧ Below w.heap.size w w' := by
  go_enter Ybaz.func60, Ybaz.ntmps60
  go_wp2
  go_ret2
  exact ⟨rfl, (Below.refl _ w).alloc (Nat.le_refl _) _⟩

set_option maxRecDepth 100000 in
set_option maxHeartbeats 1000000 in
theorem number_21 (w : World) : Calls Ybaz.prog 60 #[.agg #[.int .u64 11, .int .u8 5]] w fun e w' => e = .returned (.tuple #[.int .u64 21, .bool true]) ∧ Below w.heap.size w w' := by
  go_enter Ybaz.func60, Ybaz.ntmps60
  go_wp2
  go_ret2
  exact ⟨rfl, (Below.refl _ w).alloc (Nat.le_refl _) _⟩

set_option maxRecDepth 100000 in
set_option maxHeartbeats 1000000 in
theorem number_22 (w : World) : Calls Ybaz.prog 60 #[.agg #[.int .u64 13, .int .u8 5]] w fun e w' => e = .returned (.tuple #[.int .u64 22, .bool true]) ∧ Below w.heap.size w w' := by
  go_enter Ybaz.func60, Ybaz.ntmps60
  go_wp2
  go_ret2
  exact ⟨rfl, (Below.refl _ w).alloc (Nat.le_refl _) _⟩

set_option maxRecDepth 100000 in
set_option maxHeartbeats 1000000 in
theorem number_23 (w : World) : Calls Ybaz.prog 60 #[.agg #[.int .u64 15, .int .u8 5]] w fun e w' => e = .returned (.tuple #[.int .u64 23, .bool true]) ∧ Below w.heap.size w w' := by
  go_enter Ybaz.func60, Ybaz.ntmps60
  go_wp2
  go_ret2
  exact ⟨rfl, (Below.refl _ w).alloc (Nat.le_refl _) _⟩

set_option maxRecDepth 100000 in
set_option maxHeartbeats 1000000 in
theorem number_24 (w : World) : Calls Ybaz.prog 60 #[.agg #[.int .u64 17, .int .u8 5]] w fun e w' => e = .returned (.tuple #[.int .u64 24, .bool true]) ∧ Below w.heap.size w w' := by
  go_enter Ybaz.func60, Ybaz.ntmps60
  go_wp2
  go_ret2
  exact ⟨rfl, (Below.refl _ w).alloc (Nat.le_refl _) _⟩

set_option maxRecDepth 100000 in
set_option maxHeartbeats 1000000 in
theorem number_25 (w : World) : Calls Ybaz.prog 60 #[.agg #[.int .u64 19, .int .u8 5]] w fun e w' => e = .returned (.tuple #[.int .u64 25, .bool true]) ∧ Below w.heap.size w w' := by
  go_enter Ybaz.func60, Ybaz.ntmps60
  go_wp2
  go_ret2
  exact ⟨rfl, (Below.refl _ w).alloc (Nat.le_refl _) _⟩

set_option maxRecDepth 100000 in
set_option maxHeartbeats 1000000 in
theorem number_26 (w : World) : Calls Ybaz.prog 60 #[.agg #[.int .u64 21, .int .u8 5]] w fun e w' => e = .returned (.tuple #[.int .u64 26, .bool true]) ∧ Below w.heap.size w w' := by
  go_enter Ybaz.func60, Ybaz.ntmps60
  go_wp2
  go_ret2
  exact ⟨rfl, (Below.refl _ w).alloc (Nat.le_refl _) _⟩

set_option maxRecDepth 100000 in
set_option maxHeartbeats 1000000 in
theorem number_27 (w : World) : Calls Ybaz.prog 60 #[.agg #[.int .u64 23, .int .u8 5]] w fun e w' => e = .returned (.tuple #[.int .u64 27, .bool true]) ∧ Below w.heap.size w w' := by
  go_enter Ybaz.func60, Ybaz.ntmps60
  go_wp2
  go_ret2
  exact ⟨rfl, (Below.refl _ w).alloc (Nat.le_refl _) _⟩

set_option maxRecDepth 100000 in
set_option maxHeartbeats 1000000 in
theorem number_28 (w : World) : Calls Ybaz.prog 60 #[.agg #[.int .u64 25, .int .u8 5]] w fun e w' => e = .returned (.tuple #[.int .u64 28, .bool true]) ∧ Below w.heap.size w w' := by
  go_enter Ybaz.func60, Ybaz.ntmps60
  go_wp2
  go_ret2
  exact ⟨rfl, (Below.refl _ w).alloc (Nat.le_refl _) _⟩

set_option maxRecDepth 100000 in
set_option maxHeartbeats 1000000 in
theorem number_29 (w : World) : Calls Ybaz.prog 60 #[.agg #[.int .u64 27, .int .u8 5]] w fun e w' => e = .returned (.tuple #[.int .u64 29, .bool true]) ∧ Below w.heap.size w w' := by
  go_enter Ybaz.func60, Ybaz.ntmps60
  go_wp2
  go_ret2
  exact ⟨rfl, (Below.refl _ w).alloc (Nat.le_refl _) _⟩

set_option maxRecDepth 100000 in
set_option maxHeartbeats 1000000 in
theorem number_30 (w : World) : Calls Ybaz.prog 60 #[.agg #[.int .u64 29, .int .u8 5]] w fun e w' => e = .returned (.tuple #[.int .u64 30, .bool true]) ∧ Below w.heap.size w w' := by
  go_enter Ybaz.func60, Ybaz.ntmps60
  go_wp2
  go_ret2
  exact ⟨rfl, (Below.refl _ w).alloc (Nat.le_refl _) _⟩

set_option maxRecDepth 100000 in
set_option maxHeartbeats 1000000 in
theorem number_31 (w : World) : Calls Ybaz.prog 60 #[.agg #[.int .u64 31, .int .u8 5]] w fun e w' => e = .returned (.tuple #[.int .u64 31, .bool true]) ∧ Below w.heap.size w w' := by
  go_enter Ybaz.func60, Ybaz.ntmps60
  go_wp2
  go_ret2
  exact ⟨rfl, (Below.refl _ w).alloc (Nat.le_refl _) _⟩

set_option maxRecDepth 100000 in
set_option maxHeartbeats 1000000 in
theorem number_32 (w : World) : Calls Ybaz.prog 60 #[.agg #[.int .u64 1, .int .u8 6]] w fun e w' => e = .returned (.tuple #[.int .u64 32, .bool true]) ∧ Below w.heap.size w w' := by
  go_enter Ybaz.func60, Ybaz.ntmps60
  go_wp2
  go_ret2
  exact ⟨rfl, (Below.refl _ w).alloc (Nat.le_refl _) _⟩

set_option maxRecDepth 100000 in
set_option maxHeartbeats 1000000 in
theorem number_33 (w : World) : Calls Ybaz.prog 60 #[.agg #[.int .u64 3, .int .u8 6]] w fun e w' => e = .returned (.tuple #[.int .u64 33, .bool true]) ∧ Below w.heap.size w w' := by
  go_enter Ybaz.func60, Ybaz.ntmps60
  go_wp2
  go_ret2
  exact ⟨rfl, (Below.refl _ w).alloc (Nat.le_refl _) _⟩

set_option maxRecDepth 100000 in
set_option maxHeartbeats 1000000 in
theorem number_34 (w : World) : Calls Ybaz.prog 60 #[.agg #[.int .u64 5, .int .u8 6]] w fun e w' => e = .returned (.tuple #[.int .u64 34, .bool true]) ∧ Below w.heap.size w w' := by
  go_enter Ybaz.func60, Ybaz.ntmps60
  go_wp2
  go_ret2
  exact ⟨rfl, (Below.refl _ w).alloc (Nat.le_refl _) _⟩

set_option maxRecDepth 100000 in
set_option maxHeartbeats 1000000 in
theorem number_35 (w : World) : Calls Ybaz.prog 60 #[.agg #[.int .u64 7, .int .u8 6]] w fun e w' => e = .returned (.tuple #[.int .u64 35, .bool true]) ∧ Below w.heap.size w w' := by
  go_enter Ybaz.func60, Ybaz.ntmps60
  go_wp2
  go_ret2
  exact ⟨rfl, (Below.refl _ w).alloc (Nat.le_refl _) _⟩

set_option maxRecDepth 100000 in
set_option maxHeartbeats 1000000 in
theorem number_36 (w : World) : Calls Ybaz.prog 60 #[.agg #[.int .u64 9, .int .u8 6]] w fun e w' => e = .returned (.tuple #[.int .u64 36, .bool true]) ∧ Below w.heap.size w w' := by
  go_enter Ybaz.func60, Ybaz.ntmps60
  go_wp2
  go_ret2
  exact ⟨rfl, (Below.refl _ w).alloc (Nat.le_refl _) _⟩

set_option maxRecDepth 100000 in
set_option maxHeartbeats 1000000 in
theorem number_37 (w : World) : Calls Ybaz.prog 60 #[.agg #[.int .u64 11, .int .u8 6]] w fun e w' => e = .returned (.tuple #[.int .u64 37, .bool true]) ∧ Below w.heap.size w w' := by
  go_enter Ybaz.func60, Ybaz.ntmps60
  go_wp2
  go_ret2
  exact ⟨rfl, (Below.refl _ w).alloc (Nat.le_refl _) _⟩

set_option maxRecDepth 100000 in
set_option maxHeartbeats 1000000 in
theorem number_38 (w : World) : Calls Ybaz.prog 60 #[.agg #[.int .u64 13, .int .u8 6]] w fun e w' => e = .returned (.tuple #[.int .u64 38, .bool true]) ∧ Below w.heap.size w w' := by
  go_enter Ybaz.func60, Ybaz.ntmps60
  go_wp2
  go_ret2
  exact ⟨rfl, (Below.refl _ w).alloc (Nat.le_refl _) _⟩

set_option maxRecDepth 100000 in
set_option maxHeartbeats 1000000 in
theorem number_39 (w : World) : Calls Ybaz.prog 60 #[.agg #[.int .u64 15, .int .u8 6]] w fun e w' => e = .returned (.tuple #[.int .u64 39, .bool true]) ∧ Below w.heap.size w w' := by
  go_enter Ybaz.func60, Ybaz.ntmps60
  go_wp2
  go_ret2
  exact ⟨rfl, (Below.refl _ w).alloc (Nat.le_refl _) _⟩

theorem number_any (x : Nat) (hx : x < 40) (w : World) : Calls Ybaz.prog 60 #[.agg #[.int .u64 (lb x), .int .u8 (ln x)]] w fun e w' => e = .returned (.tuple #[.int .u64 x, .bool true]) ∧ Below w.heap.size w w' := by
  match x, hx with
  | 0, _ => exact number_0 w
  | 1, _ => exact number_1 w
  | 2, _ => exact number_2 w
  | 3, _ => exact number_3 w
  | 4, _ => exact number_4 w
  | 5, _ => exact number_5 w
  | 6, _ => exact number_6 w
  | 7, _ => exact number_7 w
  | 8, _ => exact number_8 w
  | 9, _ => exact number_9 w
  | 10, _ => exact number_10 w
  | 11, _ => exact number_11 w
  | 12, _ => exact number_12 w
  | 13, _ => exact number_13 w
  | 14, _ => exact number_14 w
  | 15, _ => exact number_15 w
  | 16, _ => exact number_16 w
  | 17, _ => exact number_17 w
  | 18, _ => exact number_18 w
  | 19, _ => exact number_19 w
  | 20, _ => exact number_20 w
  | 21, _ => exact number_21 w
  | 22, _ => exact number_22 w
  | 23, _ => exact number_23 w
  | 24, _ => exact number_24 w
  | 25, _ => exact number_25 w
  | 26, _ => exact number_26 w
  | 27, _ => exact number_27 w
  | 28, _ => exact number_28 w
  | 29, _ => exact number_29 w
  | 30, _ => exact number_30 w
  | 31, _ => exact number_31 w
  | 32, _ => exact number_32 w
  | 33, _ => exact number_33 w
  | 34, _ => exact number_34 w
  | 35, _ => exact number_35 w
  | 36, _ => exact number_36 w
  | 37, _ => exact number_37 w
  | 38, _ => exact number_38 w
  | 39, _ => exact number_39 w
  | n + 40, h => exact absurd h (by omega)

end Go.Proofs.YbulkclxkGreat.lab

