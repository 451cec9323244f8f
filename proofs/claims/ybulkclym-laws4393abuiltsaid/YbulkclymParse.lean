/-
  CONTRACTS OF knxip.ParseTunnellingRequest (function 6) over the dump 'ybulkclym': a case each. Shared by the proofs of LawS4393AExact and LawS4393ABuilt.
-/
import Derived.Test.YbulkclymRows
import Derived.WalkKit
import Derived.ProofKit
import Derived.RegionTactic
import Derived.WalkSpells
import Derived.WalkLawsBesides
import Derived.Below
namespace Go.Proofs.Ybulkclym.parse
open Go.ChangeShapes Go.WideShapes Go.ChangeAt Go.RowKit
set_option linter.unusedVariables false

/-- 'the zero frame and an error that is not nil' -/
def refused (e : Ending) : Prop := ∃ p, e = .returned (.tuple #[.agg #[.int .u8 0, .int .u8 0, .slice none 0 0], .iface 47 (.pointer (some p))])

set_option maxHeartbeats 1000000 in
theorem no_short (a : Option Addr) (len cap : Nat) (w : World) (h : len < 4) :
    Calls Yba.prog 6 #[.slice a len cap] w fun e w' => refused e ∧ Below w.heap.size w w' := by
  have hd : decide ((4 : Int) ≤ (len : Int)) = false := decide_eq_false (by omega)
  go_enter Yba.func6, Yba.ntmps6
  go_wp2
  refine bodyPost_ret (v := .tuple #[.agg #[.int .u8 0, .int .u8 0, .slice none 0 0], .iface 47 (.pointer (some ⟨w.heap.size + 1, 0, none⟩))]) (by simp [results, Yba.results6, go_sem]) rfl ⟨⟨_, rfl⟩, ?_⟩
  exact ((Below.refl _ _).alloc (Nat.le_refl _) _).alloc (by simp) _

set_option maxHeartbeats 1000000 in
theorem no_head (b off len cap : Nat) (z0 : Int) (w : World) (h : 4 ≤ len) (h0 : (z0 == 4) = false)
    (c0 : w.cell? ⟨b, off, none⟩ = some (.int .u8 z0)) :
    Calls Yba.prog 6 #[.slice (some ⟨b, off, none⟩) len cap] w fun e w' => refused e ∧ Below w.heap.size w w' := by
  have hd : (4 : Int) ≤ (len : Int) := by omega
  have hd0 : (0 : Int) < (len : Int) := by omega
  have hlt : b < w.heap.size := World.block_lt_of_cell? _ _ c0
  go_enter Yba.func6, Yba.ntmps6
  go_wp2
  refine bodyPost_ret (v := .tuple #[.agg #[.int .u8 0, .int .u8 0, .slice none 0 0], .iface 47 (.pointer (some ⟨w.heap.size + 1, 0, none⟩))]) (by simp [results, Yba.results6, go_sem]) rfl ⟨⟨_, rfl⟩, ?_⟩
  exact ((Below.refl _ _).alloc (Nat.le_refl _) _).alloc (by simp) _

set_option maxHeartbeats 1000000 in
theorem no_bare (b off cap : Nat) (w : World)
    (c0 : w.cell? ⟨b, off, none⟩ = some (.int .u8 4)) :
    Calls Yba.prog 6 #[.slice (some ⟨b, off, none⟩) 4 cap] w fun e w' => refused e ∧ Below w.heap.size w w' := by
  have hlt : b < w.heap.size := World.block_lt_of_cell? _ _ c0
  go_enter Yba.func6, Yba.ntmps6
  go_wp2
  refine bodyPost_ret (v := .tuple #[.agg #[.int .u8 0, .int .u8 0, .slice none 0 0], .iface 47 (.pointer (some ⟨w.heap.size + 1, 0, none⟩))]) (by simp [results, Yba.results6, go_sem]) rfl ⟨⟨_, rfl⟩, ?_⟩
  exact ((Below.refl _ _).alloc (Nat.le_refl _) _).alloc (by simp) _

set_option maxHeartbeats 1000000 in
theorem no_last (b off len cap : Nat) (z3 : Int) (w : World) (h : 5 ≤ len) (h3 : (z3 == 0) = false)
    (c0 : w.cell? ⟨b, off, none⟩ = some (.int .u8 4)) (c3 : w.cell? ⟨b, off + 3, none⟩ = some (.int .u8 z3)) :
    Calls Yba.prog 6 #[.slice (some ⟨b, off, none⟩) len cap] w fun e w' => refused e ∧ Below w.heap.size w w' := by
  have hd : (4 : Int) ≤ (len : Int) := by omega
  have hd0 : (0 : Int) < (len : Int) := by omega
  have hd3 : (3 : Int) < (len : Int) := by omega
  have hd4 : ((len : Int) == 4) = false := beq_eq_false_iff_ne.2 (by omega)
  have h3' : (z3 != 0) = true := by simpa [bne] using h3
  have hlt : b < w.heap.size := World.block_lt_of_cell? _ _ c0
  go_enter Yba.func6, Yba.ntmps6
  go_wp2
  refine bodyPost_ret (v := .tuple #[.agg #[.int .u8 0, .int .u8 0, .slice none 0 0], .iface 47 (.pointer (some ⟨w.heap.size + 1, 0, none⟩))]) (by simp [results, Yba.results6, go_sem]) rfl ⟨⟨_, rfl⟩, ?_⟩
  exact ((Below.refl _ _).alloc (Nat.le_refl _) _).alloc (by simp) _

set_option maxHeartbeats 1000000 in
theorem yes (b off len cap : Nat) (z1 z2 : Int) (w : World) (h : 5 ≤ len) (hc : len ≤ cap) (hm : cap ≤ maxLen)
    (c0 : w.cell? ⟨b, off, none⟩ = some (.int .u8 4)) (c1 : w.cell? ⟨b, off + 1, none⟩ = some (.int .u8 z1)) (c2 : w.cell? ⟨b, off + 2, none⟩ = some (.int .u8 z2))
    (c3 : w.cell? ⟨b, off + 3, none⟩ = some (.int .u8 0)) :
    Calls Yba.prog 6 #[.slice (some ⟨b, off, none⟩) len cap] w fun e w' =>
      e = .returned (.tuple #[.agg #[.int .u8 z1, .int .u8 z2, .slice (some ⟨b, off + 4, none⟩) (len - 4) (cap - 4)], .nilIface]) ∧ Below w.heap.size w w' := by
  unfold maxLen at hm
  have hd : (4 : Int) ≤ (len : Int) := by omega
  have hd0 : (0 : Int) < (len : Int) := by omega
  have hd1 : (1 : Int) < (len : Int) := by omega
  have hd2 : (2 : Int) < (len : Int) := by omega
  have hd3 : (3 : Int) < (len : Int) := by omega
  have hd4 : ((len : Int) == 4) = false := beq_eq_false_iff_ne.2 (by omega)
  have hlt : b < w.heap.size := World.block_lt_of_cell? _ _ c0
  go_enter Yba.func6, Yba.ntmps6
  go_wp2
  go_region
  go_wp2
  refine bodyPost_ret (v := .tuple #[.agg #[.int .u8 z1, .int .u8 z2, .slice (some ⟨b, off + 4, none⟩) (len - 4) (cap - 4)], .nilIface]) (by simp [results, Yba.results6, go_sem]) rfl ⟨rfl, ?_⟩
  exact ((Below.refl _ _).alloc (Nat.le_refl _) _).drew
end Go.Proofs.Ybulkclym.parse
