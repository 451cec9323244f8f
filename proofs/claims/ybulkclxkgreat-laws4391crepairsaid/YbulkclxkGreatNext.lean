import Derived.Test.YbulkclxkGreatRead
namespace Go.Proofs.YbulkclxkGreat.read
open Go.ChangeShapes Go.WideShapes Go.ChangeAt Go.RowKit
open lab ring maps sup put hold
set_option linter.unusedVariables false

set_option maxRecDepth 100000 in
set_option maxHeartbeats 1000000 in
theorem next_none (rb : Nat) (w : World) (hn : ∀ wx, Calls Ybaz.prog 30 #[.agg #[.int .u64 0, .int .u8 0]] wx fun e w' => e = .returned (.bool true) ∧ Below wx.heap.size wx w') :
    Calls Ybaz.prog 21 #[.pointer (some ⟨rb, 0, none⟩), .agg #[.int .u64 0, .int .u8 0]] w fun e w' => e = .returned (.int .i64 0) ∧ Below w.heap.size w w' := by
  have HN : Hid (∀ wx, Calls Ybaz.prog 30 #[.agg #[.int .u64 0, .int .u8 0]] wx fun e w' => e = .returned (.bool true) ∧ Below wx.heap.size wx w') := hn
  clear hn
  go_enter Ybaz.func21, Ybaz.ntmps21
  go_wp2_with (go_at_call 30; refine (HN.out _).mono ?_; rintro e w1 ⟨rfl, hb1⟩)
  go_ret
  exact ⟨rfl, ((Below.refl _ w).alloc (Nat.le_refl _) _).trans (hb1.mono (by simp))⟩

set_option maxRecDepth 100000 in
set_option maxHeartbeats 1000000 in
theorem next_some (rb g c m pos k : Nat) (tb tn : Int) (w : World) (h0 : w.cell? ⟨rb, 0, none⟩ = some (.slice (some ⟨g, 0, none⟩) m c)) (hm : 0 < m) (hm2 : m < 100000) (hpos : pos < m) (hk : k = (pos + 1) % m)
    (hn : ∀ wx, Calls Ybaz.prog 30 #[.agg #[.int .u64 tb, .int .u8 tn]] wx fun e w' => e = .returned (.bool false) ∧ Below wx.heap.size wx w')
    (hs : ∀ wx, Below w.heap.size w wx → Calls Ybaz.prog 23 #[.pointer (some ⟨rb, 0, none⟩), .agg #[.int .u64 tb, .int .u8 tn]] wx fun e w' => e = .returned (.tuple #[.int .i64 pos, .bool true]) ∧ Below wx.heap.size wx w') :
    Calls Ybaz.prog 21 #[.pointer (some ⟨rb, 0, none⟩), .agg #[.int .u64 tb, .int .u8 tn]] w fun e w' => e = .returned (.int .i64 k) ∧ Below w.heap.size w w' := by
  have HN : Hid (∀ wx, Calls Ybaz.prog 30 #[.agg #[.int .u64 tb, .int .u8 tn]] wx fun e w' => e = .returned (.bool false) ∧ Below wx.heap.size wx w') := hn
  have HS : Hid (∀ wx, Below w.heap.size w wx → Calls Ybaz.prog 23 #[.pointer (some ⟨rb, 0, none⟩), .agg #[.int .u64 tb, .int .u8 tn]] wx fun e w' => e = .returned (.tuple #[.int .i64 pos, .bool true]) ∧ Below wx.heap.size wx w') := hs
  have hrb : rb < w.heap.size := World.block_lt_of_cell? _ _ h0
  have hmod : ((pos : Int) + 1).tmod (m : Int) = (k : Int) := by
    rw [Int.tmod_eq_emod_of_nonneg (by omega)]; rw [hk]; push_cast; rfl
  have hm0 : ¬ m = 0 := by omega
  have hm1 : ¬ (m : Int) = 0 := by omega
  have hw1 : IntKind.i64.wrap ((pos : Int) + 1) = (pos : Int) + 1 := by rw [IntKind.wrap_i64]; omega
  clear hn hs hk
  go_enter Ybaz.func21, Ybaz.ntmps21
  go_wp2_with (first
    | (go_at_call 30; refine (HN.out _).mono ?_; rintro e w1 ⟨rfl, hb1⟩
       have hB1 : Below w.heap.size w w1 := ((Below.refl _ w).alloc (Nat.le_refl _) _).trans (hb1.mono (by simp))
       have t0 : w1.cell? ⟨w.heap.size, 0, none⟩ = some (.int .u64 tb) := by rw [hb1.cell (p := ⟨w.heap.size, 0, none⟩) (by simp), World.cell?_alloc_at _ _ _ _ rfl]; rfl
       have t1 : w1.cell? ⟨w.heap.size, 1, none⟩ = some (.int .u8 tn) := by rw [hb1.cell (p := ⟨w.heap.size, 1, none⟩) (by simp), World.cell?_alloc_at _ _ _ _ rfl]; rfl)
    | (go_at_call 23; refine (HS.out _ hB1).mono ?_; rintro e w2 ⟨rfl, hb2⟩
       have hB2 : Below w.heap.size w w2 := hB1.trans (hb2.mono hB1.size)
       have c2 : w2.cell? ⟨rb, 0, none⟩ = some (.slice (some ⟨g, 0, none⟩) m c) := (hB2.cell (p := ⟨rb, 0, none⟩) hrb).trans h0))
  go_ret
  exact ⟨rfl, hB2⟩
end Go.Proofs.YbulkclxkGreat.read
