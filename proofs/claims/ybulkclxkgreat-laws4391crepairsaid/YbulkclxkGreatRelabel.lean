import Derived.Test.YbulkclxkGreatRead
import Derived.Test.YbulkclxkGreatEq
import Derived.BigQuiet
namespace Go.Proofs.YbulkclxkGreat.read
open Go.ChangeShapes Go.WideShapes Go.ChangeAt Go.RowKit
open lab ring maps sup put hold
set_option linter.unusedVariables false

theorem info4 : (Ybaz.prog.info? 4).map (fun i => (i.zero, i.size, i.bytes)) = some (some (.bool false), 1, 1) := by kernel_rfl

set_option maxRecDepth 100000 in
set_option maxHeartbeats 1000000 in
/-- relabel where every entry bears one of l(0) .. l(m-1): nothing to do. -/
theorem relabel_none (rb g c m : Nat) (P : Nat → Pr) (N : Nat → Nat) (w : World) (h0 : w.cell? ⟨rb, 0, none⟩ = some (.slice (some ⟨g, 0, none⟩) m c)) (hm : 0 < m) (hm2 : m ≤ 1000) (hP : Row w g m P) (hN : ∀ j, j < m → N j < m)
    (hnum : ∀ j wx, j < m → Calls Ybaz.prog 60 #[.agg #[.int .u64 (P j).b, .int .u8 (P j).n]] wx fun e w' => e = .returned (.tuple #[.int .u64 (N j), .bool true]) ∧ Below wx.heap.size wx w') :
    Calls Ybaz.prog 43 #[.pointer (some ⟨rb, 0, none⟩)] w fun e w' => e = .returned (.slice none 0 0) ∧ Below w.heap.size w w' := by
  have hrb : rb < w.heap.size := World.block_lt_of_cell? _ _ h0
  have hg : g < w.heap.size := World.block_lt_of_cell? _ _ (hP 0 hm).1
  have h0a : ∀ o, (w.alloc o).cell? ⟨rb, 0, none⟩ = some (.slice (some ⟨g, 0, none⟩) m c) := fun o => by rw [World.cell?_alloc_past _ _ _ hrb]; exact h0
  have HP : Hid (Row w g m P) := hP
  have HN : Hid (∀ j, j < m → N j < m) := hN
  have HU : Hid (∀ j wx, j < m → Calls Ybaz.prog 60 #[.agg #[.int .u64 (P j).b, .int .u8 (P j).n]] wx fun e w' => e = .returned (.tuple #[.int .u64 (N j), .bool true]) ∧ Below wx.heap.size wx w') := hnum
  have i64 : IntKind.u64.wrap (m : Int) = (m : Int) := by rw [IntKind.wrap_u64]; omega
  obtain ⟨i0, hi, hz0, hz1, hz2⟩ := info_parts info4
  clear hP hN hnum
  go_enter Ybaz.func43, Ybaz.ntmps43
  go_wp2_with (first
    | (at_make; refine wpList_make_full _ rfl _ _ 104 rfl (w.heap.size + 1) 4 i0 (.bool false) 1 (by kernel_rfl) hi hz0 hz1 _ _ _ _ m rfl rfl (by omega) (by omega) (by rw [hz2]; omega) (by unfold maxLen; omega) (by simp) ?_; intro w0 hown0 hgrow0
       have hB0 : Below w.heap.size w w0 := ((Below.refl _ w).alloc (Nat.le_refl _) _).grown hgrow0 (by simp) (fun k hk => by cases hk)
       have b0 : w0.cell? ⟨w.heap.size, 0, none⟩ = some (.pointer (some ⟨rb, 0, none⟩)) := hgrow0.cell (by rw [World.cell?_alloc_at _ _ _ _ rfl]; rfl) (by simp)
       have b1 : w0.cell? ⟨rb, 0, none⟩ = some (.slice (some ⟨g, 0, none⟩) m c) := (hB0.cell (p := ⟨rb, 0, none⟩) hrb).trans h0))
  go_loopw [5, 26] (fun o i wr => ∃ k : Nat, k ≤ m ∧ o = .slice none 0 0 ∧ i = .int .i64 k ∧ (∃ xs, wr.ownsRow (w.heap.size + 1) 4 1 (.slice (some ⟨w.heap.size + 1, 0, none⟩) m m) m xs) ∧ Below w.heap.size w wr) (fun _ i _ => m - (intOf i).toNat)
  case atStart => exact ⟨0, Nat.zero_le _, rfl, rfl, ⟨_, by simpa using hown0⟩, hB0⟩
  case round =>
    obtain ⟨k, hk, rfl, rfl, ⟨xs, hown⟩, hB⟩ := hrel
    by_cases hkr : k < m
    · obtain ⟨a0, a1, a2⟩ := (HP.out.later hB hg) k hkr
      have i1 : (k : Int) < (m : Int) := by omega
      have hnk := HN.out k hkr
      have i2 : ((N k : Nat) : Int) < (m : Int) := by omega
      have hHl : w.heap.size + 1 < wr.heap.size := (hown.lt _ rfl).2
      obtain ⟨u, hu⟩ : ∃ u, xs[N k]? = some u := ⟨_, List.getElem?_eq_getElem (by rw [hown.1]; omega)⟩
      go_wp2_with (first
        | (go_at_call 60; refine (HU.out k _ hkr).mono ?_; rintro e w2 ⟨rfl, hb2⟩
           have hown2 : w2.ownsRow (w.heap.size + 1) 4 1 (.slice (some ⟨w.heap.size + 1, 0, none⟩) m m) m xs := ownsRow_block (hown.alloc _) (fun q hq => hb2.block q (by cases hq; simp; omega))
           have hB2 : Below w.heap.size w w2 := (hB.alloc hB.size _).trans (hb2.mono (by have := hB.size; simp; omega))
           have d0 : w2.cell? ⟨w.heap.size + 1, N k, none⟩ = some u := (hown2.cellAt (N k) (by omega)).trans hu
           have d1 : w2.frozen? ⟨w.heap.size + 1, N k, none⟩ = false := hown2.frozenAt (N k)))
      refine ⟨⟨k + 1, by omega, rfl, by go_num, ⟨_, (hown2.stored (N k) (.bool true)).1⟩, hB2.setCell (by show w.heap.size ≤ w.heap.size + 1; omega) _⟩, by simp [intOf]; omega⟩
    · go_wp2
      go_ret
      exact ⟨rfl, hB⟩
end Go.Proofs.YbulkclxkGreat.read
