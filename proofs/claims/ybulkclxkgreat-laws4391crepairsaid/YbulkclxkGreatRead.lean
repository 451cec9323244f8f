import Derived.Test.YbulkclxkGreatHold
import Derived.BigQuiet
namespace Go.Proofs.YbulkclxkGreat.read
open Go.ChangeShapes Go.WideShapes Go.ChangeAt Go.RowKit
open lab ring maps sup put hold
set_option linter.unusedVariables false

set_option maxRecDepth 100000 in
set_option maxHeartbeats 1000000 in
theorem neigh_one (rb g c : Nat) (step : Int) (hstep : step = -1 ∨ step = 1) (w : World) (h0 : w.cell? ⟨rb, 0, none⟩ = some (.slice (some ⟨g, 0, none⟩) 1 c)) :
    Calls Ybaz.prog 31 #[.pointer (some ⟨rb, 0, none⟩), .int .i64 0, .int .i64 step] w fun e w' => e = .returned (.agg #[.string .empty, .int .u64 0, .int .u8 0]) ∧ Below w.heap.size w w' := by
  have hrb : rb < w.heap.size := World.block_lt_of_cell? _ _ h0
  have h0a : ∀ o, (w.alloc o).cell? ⟨rb, 0, none⟩ = some (.slice (some ⟨g, 0, none⟩) 1 c) := fun o => by rw [World.cell?_alloc_past _ _ _ hrb]; exact h0
  rcases hstep with rfl | rfl
  all_goals
    go_enter Ybaz.func31, Ybaz.ntmps31
    go_wp2
    refine wp_loop_rounds 1 ?_
    rw [rounds_succ]
    go_wp2
    refine bodyPost_ret (v := .agg #[.string .empty, .int .u64 0, .int .u8 0]) (by simp [results, Ybaz.results31, go_sem]; rfl) rfl ⟨rfl, (Below.refl _ w).alloc (Nat.le_refl _) _⟩

theorem adr_toList (s : ByteArray) (h : s.toList.isEmpty = false) : s ≠ .empty := by rintro rfl; simp at h

set_option maxRecDepth 100000 in
set_option maxHeartbeats 2000000 in
theorem neigh_many (rb g c m i j : Nat) (P : Nat → Pr) (step : Int) (hstep : step = -1 ∨ step = 1) (w : World) (h0 : w.cell? ⟨rb, 0, none⟩ = some (.slice (some ⟨g, 0, none⟩) m c)) (hm : 1 < m) (hm2 : m < 100000) (hi : i < m) (hj : j < m) (hij : j ≠ i)
    (hmod : ((i : Int) + step + m).tmod m = j) (hP : Row w g m P) (hne : (P j).a.toList.isEmpty = false) (hdi : ((P j).a.toList == (P i).a.toList) = false) :
    Calls Ybaz.prog 31 #[.pointer (some ⟨rb, 0, none⟩), .int .i64 i, .int .i64 step] w fun e w' => e = .returned (.agg #[.string (P j).a, .int .u64 (P j).b, .int .u8 (P j).n]) ∧ Below w.heap.size w w' := by
  have hrb : rb < w.heap.size := World.block_lt_of_cell? _ _ h0
  have h0a : ∀ o, (w.alloc o).cell? ⟨rb, 0, none⟩ = some (.slice (some ⟨g, 0, none⟩) m c) := fun o => by rw [World.cell?_alloc_past _ _ _ hrb]; exact h0
  have h0b : ∀ o o', ((w.alloc o).alloc o').cell? ⟨rb, 0, none⟩ = some (.slice (some ⟨g, 0, none⟩) m c) := fun o o' => by rw [World.cell?_alloc_past _ _ _ (by simp; omega)]; exact h0a o
  obtain ⟨ci0, _, _⟩ := hP i hi
  obtain ⟨cj0, cj1, cj2⟩ := hP j hj
  have hg : g < w.heap.size := World.block_lt_of_cell? _ _ ci0
  have hga : ∀ k o, (w.alloc o).cell? ⟨g, k, none⟩ = w.cell? ⟨g, k, none⟩ := fun k o => World.cell?_alloc_past _ _ _ hg
  have hgb : ∀ k o o', ((w.alloc o).alloc o').cell? ⟨g, k, none⟩ = w.cell? ⟨g, k, none⟩ := fun k o o' => by rw [World.cell?_alloc_past _ _ _ (by simp; omega)]; exact hga k o
  have w1 : IntKind.i64.wrap ((i : Int) + step) = (i : Int) + step := by rcases hstep with rfl | rfl <;> (rw [IntKind.wrap_i64]; omega)
  have w2 : IntKind.i64.wrap ((i : Int) + step + m) = (i : Int) + step + m := by rcases hstep with rfl | rfl <;> (rw [IntKind.wrap_i64]; omega)
  have hne' : decide ((j : Int) = (i : Int)) = false := by simp; omega
  clear hP
  go_enter Ybaz.func31, Ybaz.ntmps31
  go_wp2
  refine wp_loop_rounds 1 ?_
  rw [rounds_succ]
  go_wp2_with fail
  have hgc : ∀ k o o' o'', (((w.alloc o).alloc o').alloc o'').cell? ⟨g, k, none⟩ = w.cell? ⟨g, k, none⟩ := fun k o o' o'' => by rw [World.cell?_alloc_past _ _ _ (by simp; omega)]; exact hgb k o o'
  have h0c : ∀ o o' o'', (((w.alloc o).alloc o').alloc o'').cell? ⟨rb, 0, none⟩ = some (.slice (some ⟨g, 0, none⟩) m c) := fun o o' o'' => by rw [World.cell?_alloc_past _ _ _ (by simp; omega)]; exact h0b o o'
  have hpb : ∀ k o cs t, ((w.alloc o).alloc (.cells cs t)).cell? ⟨w.heap.size + 1, k, none⟩ = cs[k]? := fun k o cs t => by
    rw [World.cell?_alloc_at _ _ _ _ (by simp)]
  have hpc : ∀ k o cs t o'', (((w.alloc o).alloc (.cells cs t)).alloc o'').cell? ⟨w.heap.size + 1, k, none⟩ = cs[k]? := fun k o cs t o'' => by
    rw [World.cell?_alloc_past _ _ _ (by simp)]; exact hpb k o cs t
  have hr3 : ∀ k cs t o o', (((w.alloc (.cells cs t)).alloc o).alloc o').cell? ⟨w.heap.size, k, none⟩ = cs[k]? := fun k cs t o o' => by
    rw [World.cell?_alloc_past _ _ _ (by simp; omega), World.cell?_alloc_past _ _ _ (by simp), World.cell?_alloc_at _ _ _ _ rfl]
  go_region_held3 (fun w' => w'.cell? ⟨rb, 0, none⟩ = some (.slice (some ⟨g, 0, none⟩) m c) ∧ w'.cell? ⟨g, i * 3, none⟩ = some (.string (P i).a) ∧ w'.cell? ⟨w.heap.size + 1, 0, none⟩ = some (.string (P j).a) ∧ w'.cell? ⟨w.heap.size + 1, 1, none⟩ = some (.int .u64 (P j).b) ∧ w'.cell? ⟨w.heap.size + 1, 2, none⟩ = some (.int .u8 (P j).n))
    (first | exact ⟨h0b _ _, (hgb _ _ _).trans ci0, hpb 0 _ _ _, hpb 1 _ _ _, hpb 2 _ _ _⟩ | exact ⟨h0c _ _ _, (hgc _ _ _ _).trans ci0, hpc 0 _ _ _ _, hpc 1 _ _ _ _, hpc 2 _ _ _ _⟩ | go_keep)
    ((go_at_call 33; refine (peerNone (P j).a (P j).b (P j).n _).mono ?_; rintro e w' ⟨rfl, rfl⟩))
  all_goals go_wp2
  all_goals refine bodyPost_ret (v := .agg #[.string (P j).a, .int .u64 (P j).b, .int .u8 (P j).n]) (by simp [results, Ybaz.results31, go_sem, hr3]) rfl ⟨rfl, ((((Below.refl _ w).alloc (Nat.le_refl _) _).alloc (by simp) _).alloc (by simp; omega) _).drew⟩

end Go.Proofs.YbulkclxkGreat.read
