import Derived.Test.YbulkclxkGreatConfig
import Derived.BigQuiet
namespace Go.Proofs.YbulkclxkGreat.read
open Go.ChangeShapes Go.WideShapes Go.ChangeAt Go.RowKit
open lab ring maps sup put hold
set_option linter.unusedVariables false

def zp : Pr := ⟨⟨#[]⟩, 0, 0⟩

set_option maxRecDepth 100000 in
set_option maxHeartbeats 2000000 in
theorem want_many (g c m i jl jr : Nat) (P : Nat → Pr) (topic : ByteArray) (start : Int) (turn : Bool) (w : World) (hm : 1 < m) (hm2 : m ≤ 1000) (hi : i < m) (hjl : jl = (i + m - 1) % m) (hjr : jr = (i + 1) % m) (hP : Row w g m P) :
    Calls Ybaz.prog 11 #[.slice (some ⟨g, 0, none⟩) m c, .int .i64 i, .string topic, .int .u64 start, .bool turn] w fun e w' => e = .returned (.agg (cfg topic (P jl) (P i).b (P i).n (P jr) start turn)) ∧ Below w.heap.size w w' := by
  have hjl' : jl < m := by rw [hjl]; exact Nat.mod_lt _ (by omega)
  have hjr' : jr < m := by rw [hjr]; exact Nat.mod_lt _ (by omega)
  obtain ⟨ci0, ci1, ci2⟩ := hP i hi
  obtain ⟨cl0, cl1, cl2⟩ := hP jl hjl'
  obtain ⟨cr0, cr1, cr2⟩ := hP jr hjr'
  have hg : g < w.heap.size := World.block_lt_of_cell? _ _ ci0
  have hga : ∀ k o, (w.alloc o).cell? ⟨g, k, none⟩ = w.cell? ⟨g, k, none⟩ := fun k o => World.cell?_alloc_past _ _ _ hg
  have hgb : ∀ k o o', ((w.alloc o).alloc o').cell? ⟨g, k, none⟩ = w.cell? ⟨g, k, none⟩ := fun k o o' => by rw [World.cell?_alloc_past _ _ _ (by simp; omega)]; exact hga k o
  have hgc : ∀ k o o' o'', (((w.alloc o).alloc o').alloc o'').cell? ⟨g, k, none⟩ = w.cell? ⟨g, k, none⟩ := fun k o o' o'' => by rw [World.cell?_alloc_past _ _ _ (by simp; omega)]; exact hgb k o o'
  have a1 : IntKind.i64.wrap ((i : Int) + m) = (i : Int) + m := by rw [IntKind.wrap_i64]; omega
  have a2 : IntKind.i64.wrap ((i : Int) + m - 1) = (i : Int) + m - 1 := by rw [IntKind.wrap_i64]; omega
  have a3 : IntKind.i64.wrap ((i : Int) + 1) = (i : Int) + 1 := by rw [IntKind.wrap_i64]; omega
  have m1 : ((i : Int) + m - 1).tmod (m : Int) = (jl : Int) := by
    rw [Int.tmod_eq_emod_of_nonneg (by omega), hjl, show (i : Int) + m - 1 = ((i + m - 1 : Nat) : Int) by omega]; rfl
  have m2 : ((i : Int) + 1).tmod (m : Int) = (jr : Int) := by
    rw [Int.tmod_eq_emod_of_nonneg (by omega), hjr]; rfl
  have hm0 : ¬ m = 0 := by omega
  have hm1 : ¬ (m : Int) = 0 := by omega
  have i1 : (i : Int) < (m : Int) := by omega
  have i2 : (jl : Int) < (m : Int) := by omega
  have i3 : (jr : Int) < (m : Int) := by omega
  have i4 : (1 : Int) < (m : Int) := by omega
  clear hP hjl hjr
  go_enter Ybaz.func11, Ybaz.ntmps11
  go_wp2_with fail
  have hlf : ∀ k o cs t o'', (((w.alloc o).alloc (.cells cs t)).alloc o'').cell? ⟨w.heap.size + 1, k, none⟩ = cs[k]? := fun k o cs t o'' => by
    rw [World.cell?_alloc_past _ _ _ (by simp), World.cell?_alloc_at _ _ _ _ (by simp)]
  have hrt : ∀ k o o' cs t, (((w.alloc o).alloc o').alloc (.cells cs t)).cell? ⟨w.heap.size + 1 + 1, k, none⟩ = cs[k]? := fun k o o' cs t => by
    rw [World.cell?_alloc_at _ _ _ _ (by simp)]
  have hrs : ∀ k cs t o o', (((w.alloc (.cells cs t)).alloc o).alloc o').cell? ⟨w.heap.size, k, none⟩ = cs[k]? := fun k cs t o o' => by
    rw [World.cell?_alloc_past _ _ _ (by simp; omega), World.cell?_alloc_past _ _ _ (by simp), World.cell?_alloc_at _ _ _ _ rfl]
  go_region_held3 (fun w' => (w'.cell? ⟨g, i * 3 + 1, none⟩ = some (.int .u64 (P i).b) ∧ w'.cell? ⟨g, i * 3 + 2, none⟩ = some (.int .u8 (P i).n)) ∧ (w'.cell? ⟨w.heap.size + 1, 0, none⟩ = some (.string (P jl).a) ∧ w'.cell? ⟨w.heap.size + 1, 1, none⟩ = some (.int .u64 (P jl).b) ∧ w'.cell? ⟨w.heap.size + 1, 2, none⟩ = some (.int .u8 (P jl).n)) ∧ (w'.cell? ⟨w.heap.size + 1 + 1, 0, none⟩ = some (.string (P jr).a) ∧ w'.cell? ⟨w.heap.size + 1 + 1, 1, none⟩ = some (.int .u64 (P jr).b) ∧ w'.cell? ⟨w.heap.size + 1 + 1, 2, none⟩ = some (.int .u8 (P jr).n)))
    (exact ⟨⟨(hgc _ _ _ _).trans ci1, (hgc _ _ _ _).trans ci2⟩, ⟨hlf 0 _ _ _ _, hlf 1 _ _ _ _, hlf 2 _ _ _ _⟩, ⟨hrt 0 _ _ _ _, hrt 1 _ _ _ _, hrt 2 _ _ _ _⟩⟩)
    (fail)
  go_wp2
  refine bodyPost_ret (v := .agg (cfg topic (P jl) (P i).b (P i).n (P jr) start turn)) (by simp [results, Ybaz.results11, go_sem, hrs, cfg]) rfl ⟨rfl, ?_⟩
  exact ((((Below.refl _ w).alloc (Nat.le_refl _) _).alloc (by simp) _).alloc (by simp; omega) _).drew

set_option maxRecDepth 100000 in
set_option maxHeartbeats 2000000 in
theorem want_one (g c : Nat) (P : Nat → Pr) (topic : ByteArray) (start : Int) (turn : Bool) (w : World) (hP : Row w g 1 P) :
    Calls Ybaz.prog 11 #[.slice (some ⟨g, 0, none⟩) 1 c, .int .i64 0, .string topic, .int .u64 start, .bool turn] w fun e w' => e = .returned (.agg (cfg topic zp (P 0).b (P 0).n zp start turn)) ∧ Below w.heap.size w w' := by
  obtain ⟨ci0, ci1, ci2⟩ := hP 0 (by omega)
  have hg : g < w.heap.size := World.block_lt_of_cell? _ _ ci0
  have hga : ∀ k o, (w.alloc o).cell? ⟨g, k, none⟩ = w.cell? ⟨g, k, none⟩ := fun k o => World.cell?_alloc_past _ _ _ hg
  have hgb : ∀ k o o', ((w.alloc o).alloc o').cell? ⟨g, k, none⟩ = w.cell? ⟨g, k, none⟩ := fun k o o' => by rw [World.cell?_alloc_past _ _ _ (by simp; omega)]; exact hga k o
  have hgc : ∀ k o o' o'', (((w.alloc o).alloc o').alloc o'').cell? ⟨g, k, none⟩ = w.cell? ⟨g, k, none⟩ := fun k o o' o'' => by rw [World.cell?_alloc_past _ _ _ (by simp; omega)]; exact hgb k o o'
  clear hP
  simp only [Nat.zero_mul, Nat.zero_add] at ci0 ci1 ci2
  go_enter Ybaz.func11, Ybaz.ntmps11
  go_wp2_with fail
  have hlf : ∀ k o cs t o'', (((w.alloc o).alloc (.cells cs t)).alloc o'').cell? ⟨w.heap.size + 1, k, none⟩ = cs[k]? := fun k o cs t o'' => by
    rw [World.cell?_alloc_past _ _ _ (by simp), World.cell?_alloc_at _ _ _ _ (by simp)]
  have hrt : ∀ k o o' cs t, (((w.alloc o).alloc o').alloc (.cells cs t)).cell? ⟨w.heap.size + 1 + 1, k, none⟩ = cs[k]? := fun k o o' cs t => by
    rw [World.cell?_alloc_at _ _ _ _ (by simp)]
  have hrs : ∀ k cs t o o', (((w.alloc (.cells cs t)).alloc o).alloc o').cell? ⟨w.heap.size, k, none⟩ = cs[k]? := fun k cs t o o' => by
    rw [World.cell?_alloc_past _ _ _ (by simp; omega), World.cell?_alloc_past _ _ _ (by simp), World.cell?_alloc_at _ _ _ _ rfl]
  go_region_held3 (fun w' => (w'.cell? ⟨g, 1, none⟩ = some (.int .u64 (P 0).b) ∧ w'.cell? ⟨g, 2, none⟩ = some (.int .u8 (P 0).n)) ∧ (w'.cell? ⟨w.heap.size + 1, 0, none⟩ = some (.string ⟨#[]⟩) ∧ w'.cell? ⟨w.heap.size + 1, 1, none⟩ = some (.int .u64 0) ∧ w'.cell? ⟨w.heap.size + 1, 2, none⟩ = some (.int .u8 0)) ∧ (w'.cell? ⟨w.heap.size + 1 + 1, 0, none⟩ = some (.string ⟨#[]⟩) ∧ w'.cell? ⟨w.heap.size + 1 + 1, 1, none⟩ = some (.int .u64 0) ∧ w'.cell? ⟨w.heap.size + 1 + 1, 2, none⟩ = some (.int .u8 0)))
    (exact ⟨⟨(hgc _ _ _ _).trans ci1, (hgc _ _ _ _).trans ci2⟩, ⟨hlf 0 _ _ _ _, hlf 1 _ _ _ _, hlf 2 _ _ _ _⟩, ⟨hrt 0 _ _ _ _, hrt 1 _ _ _ _, hrt 2 _ _ _ _⟩⟩)
    (fail)
  go_wp2
  refine bodyPost_ret (v := .agg (cfg topic zp (P 0).b (P 0).n zp start turn)) (by simp [results, Ybaz.results11, go_sem, hrs, cfg, zp]) rfl ⟨rfl, ?_⟩
  exact ((((Below.refl _ w).alloc (Nat.le_refl _) _).alloc (by simp) _).alloc (by simp; omega) _).drew
end Go.Proofs.YbulkclxkGreat.read
