/-
  ROWS OF LABELS AND PEERS, WRITTEN OVER: one entry set; clear; slices.IndexFunc and DeleteFunc at labels with unindex's predicate.
-/
import Derived.Test.YbulkclxkGreatPut
import Derived.Lib.SliceRun
namespace Go.Proofs.YbulkclxkGreat.del
open Go.ChangeShapes Go.WideShapes Go.ChangeAt Go.RowKit
open lab ring maps sup put
set_option linter.unusedVariables false

theorem flat_set (Q : List Pr) (j : Nat) (p : Pr) : flat (Q.set j p) = (((flat Q).set (j * 3) (.string p.a)).set (j * 3 + 1) (.int .u64 p.b)).set (j * 3 + 2) (.int .u8 p.n) := by
  induction Q generalizing j with
  | nil => simp [flat]
  | cons q Q ih =>
    rcases j with _ | j
    · simp [flat_cons]
    · rw [List.set_cons_succ, flat_cons, flat_cons, ih, show (j + 1) * 3 = j * 3 + 3 by omega]
      simp only [List.set_cons_succ]
theorem flat2_cons (p : Int × Int) (Q : List (Int × Int)) : flat2 (p :: Q) = .int .u64 p.1 :: .int .u8 p.2 :: flat2 Q := rfl
theorem flat2_append (L M : List (Int × Int)) : flat2 (L ++ M) = flat2 L ++ flat2 M := by simp [flat2]
theorem flat2_length (L : List (Int × Int)) : (flat2 L).length = L.length * 2 := by
  induction L with
  | nil => rfl
  | cons p L ih => rw [flat2_cons]; simp [ih]; omega
theorem flat2_take (L : List (Int × Int)) (i : Nat) : (flat2 L).take (i * 2) = flat2 (L.take i) := by
  induction L generalizing i with
  | nil => simp [flat2]
  | cons p L ih =>
    rcases i with _ | i
    · simp [flat2]
    · rw [flat2_cons, show (i + 1) * 2 = i * 2 + 2 by omega]
      simp only [List.take_succ_cons, flat2_cons, ih]
theorem flat2_set (Q : List (Int × Int)) (j : Nat) (p : Int × Int) : flat2 (Q.set j p) = ((flat2 Q).set (j * 2) (.int .u64 p.1)).set (j * 2 + 1) (.int .u8 p.2) := by
  induction Q generalizing j with
  | nil => simp [flat2]
  | cons q Q ih =>
    rcases j with _ | j
    · simp [flat2_cons]
    · rw [List.set_cons_succ, flat2_cons, flat2_cons, ih, show (j + 1) * 2 = j * 2 + 2 by omega]
      simp only [List.set_cons_succ]
theorem flat2_one (L : List (Int × Int)) : ∀ u ∈ flat2 L, u.oneCell' = true := by
  induction L with
  | nil => simp [flat2]
  | cons p L ih => rw [flat2_cons]; simpa [Value.oneCell'] using ih
def nth2 (L : List (Int × Int)) (j : Nat) : Int × Int := L.getD j (0, 0)
theorem flat2_at (L : List (Int × Int)) (j : Nat) (hj : j < L.length) : (flat2 L)[j * 2]? = some (.int .u64 (nth2 L j).1) ∧ (flat2 L)[j * 2 + 1]? = some (.int .u8 (nth2 L j).2) := by
  induction L generalizing j with
  | nil => simp at hj
  | cons p L ih =>
    rcases j with _ | j
    · exact ⟨rfl, rfl⟩
    · have := ih j (by simpa using hj)
      rw [flat2_cons, show (j + 1) * 2 = j * 2 + 2 by omega]
      simpa [nth2] using this
def Row2 (w : World) (g m : Nat) (M : List (Int × Int)) : Prop := ∀ j, j < m → w.cell? ⟨g, j * 2, none⟩ = some (.int .u64 (nth2 M j).1) ∧ w.cell? ⟨g, j * 2 + 1, none⟩ = some (.int .u8 (nth2 M j).2)
theorem row2_of {w : World} {B g c : Nat} {M : List (Int × Int)} (h : w.ownsRow B 28 2 (.slice (some ⟨g, 0, none⟩) M.length c) M.length (flat2 M)) : Row2 w g M.length M := fun j hj => by
  have := flat2_at M j hj
  exact ⟨(h.cellAt _ (by omega)).trans this.1, (h.cellAt _ (by omega)).trans this.2⟩

theorem store3 {w : World} {B g n c : Nat} {Q : List Pr} (h : w.ownsRow B 31 3 (.slice (some ⟨g, 0, none⟩) n c) n (flat Q)) (j : Nat) (p : Pr) :
    (((w.setCell ⟨g, j * 3, none⟩ (.string p.a)).setCell ⟨g, j * 3 + 1, none⟩ (.int .u64 p.b)).setCell ⟨g, j * 3 + 2, none⟩ (.int .u8 p.n)).ownsRow B 31 3 (.slice (some ⟨g, 0, none⟩) n c) n (flat (Q.set j p)) ∧
    w.grownBy (((w.setCell ⟨g, j * 3, none⟩ (.string p.a)).setCell ⟨g, j * 3 + 1, none⟩ (.int .u64 p.b)).setCell ⟨g, j * 3 + 2, none⟩ (.int .u8 p.n)) (some g) := by
  have h1 := h.stored (j * 3) (.string p.a)
  have h2 := h1.1.stored (j * 3 + 1) (.int .u64 p.b)
  have h3 := h2.1.stored (j * 3 + 2) (.int .u8 p.n)
  rw [flat_set]
  exact ⟨h3.1, grownBy_trans (grownBy_trans h1.2 h2.2) h3.2⟩
theorem store2 {w : World} {B g n c : Nat} {Q : List (Int × Int)} (h : w.ownsRow B 28 2 (.slice (some ⟨g, 0, none⟩) n c) n (flat2 Q)) (j : Nat) (p : Int × Int) :
    ((w.setCell ⟨g, j * 2, none⟩ (.int .u64 p.1)).setCell ⟨g, j * 2 + 1, none⟩ (.int .u8 p.2)).ownsRow B 28 2 (.slice (some ⟨g, 0, none⟩) n c) n (flat2 (Q.set j p)) ∧
    w.grownBy ((w.setCell ⟨g, j * 2, none⟩ (.int .u64 p.1)).setCell ⟨g, j * 2 + 1, none⟩ (.int .u8 p.2)) (some g) := by
  have h1 := h.stored (j * 2) (.int .u64 p.1)
  have h2 := h1.1.stored (j * 2 + 1) (.int .u8 p.2)
  rw [flat2_set]
  exact ⟨h2.1, grownBy_trans h1.2 h2.2⟩

/-- 'clear(s[i:])' of a row that the call owns, and the row cut to s[:i]. -/
theorem clear_row {w : World} {B g n c i k : Nat} {e t : TypeId} {xs : List Value} (z : Value) (ht : Ybaz.prog.underlying t = some (.slice e)) (hv : ∀ w, (zeroValue e).run Ybaz.prog w = .ok z w) (hzk : z.cells.size = k) (hk : 0 < k) (h1 : ∀ v ∈ z.cells, v.oneCell' = true)
    (h : w.ownsRow B e k (.slice (some ⟨g, 0, none⟩) n c) n xs) (hi : i < n) :
    ∃ w', (∀ ty c', (Builtin.clear_ #[t] ty #[.slice (some ⟨g, i * k, none⟩) (n - i) c']).run Ybaz.prog w = .ok (.tuple #[]) w') ∧ w'.ownsRow B e k (.slice (some ⟨g, 0, none⟩) i c) i (xs.take (i * k)) ∧ w.grownBy w' (some g) := by
  obtain ⟨hl, ⟨h', _⟩ | ⟨g', c0, cur, h', hb, hg, hnc, hcm, hcs, htake⟩⟩ := h
  · simp at h'
  · simp only [Value.slice.injEq, Option.some.injEq, Addr.mk.injEq, and_true, true_and] at h'
    obtain ⟨rfl, rfl⟩ := h'
    have hlen : (Builtin.zeroCells z.cells (n - i)).toList.length = (n - i) * k := by simp [Builtin.zeroCells, hzk]
    have hone : ∀ v ∈ (Builtin.zeroCells z.cells (n - i)).toList, v.oneCell' = true := by
      intro v hv'
      simp only [Builtin.zeroCells, Array.toList_map, List.mem_map, Array.toList_range, List.mem_range] at hv'
      obtain ⟨j, _, rfl⟩ := hv'
      rw [getElem!_pos _ _ (by rw [hzk]; exact Nat.mod_lt _ hk)]
      exact h1 _ (Array.getElem_mem _)
    have hfit : i * k + (n - i) * k ≤ cur.size := by
      rw [hcs, ← Nat.add_mul]; exact Nat.mul_le_mul_right _ (by omega)
    have hst := run_storeCells_at (P := Ybaz.prog) g (i * k) e (Builtin.zeroCells z.cells (n - i)).toList 0 cur w hg (by rw [hlen]; omega) hone
    obtain ⟨m, hm⟩ : ∃ m, n - i = m + 1 := ⟨n - i - 1, by omega⟩
    have hle : i * k ≤ n * k := Nat.mul_le_mul_right _ (by omega)
    have hle2 : n * k ≤ c * k := Nat.mul_le_mul_right _ hnc
    simp only [Nat.add_zero] at hst
    generalize hvs : (Builtin.zeroCells z.cells (n - i)).toList = vs at hst hlen hone
    refine ⟨w.setRow g (cur.toList.take (i * k) ++ vs ++ cur.toList.drop (i * k + vs.length)).toArray, fun ty c' => ?_, ⟨?_, .inr ⟨g, c, _, rfl, hb, setRow_heap w g cur _ e _ hg, by omega, hcm, ?_, ?_⟩⟩, ⟨rfl, rfl, rfl, by simp, fun j _ hj => setRow_other w g j _ (fun e => hj (by simp [e]))⟩⟩
    · rw [hm] at hvs ⊢
      simp [Builtin.clear_, run_underlying ht, hv, hvs, hst]
    · rw [List.length_take, hl]; omega
    · simp only [List.size_toArray, List.length_append, List.length_take, List.length_drop, Array.length_toList, hlen]
      omega
    · simp only [List.append_assoc]
      rw [List.take_append_of_le_length (by simp; omega), List.take_take, Nat.min_self, ← htake, List.take_take, Nat.min_eq_left hle]

def same (q : Int × Int) (m : Int × Int) : Bool := m.1 == q.1 && m.2 == q.2
def Ind {α : Type} (M : List α) (s : α → Bool) (r : Int) : Prop := (r = -1 ∧ ∀ m ∈ M, s m = false) ∨ ∃ A m C, r = (A.length : Int) ∧ M = A ++ m :: C ∧ (∀ x ∈ A, s x = false) ∧ s m = true

set_option maxHeartbeats 400000 in
theorem unindex1 (m : Int × Int) (pb : Nat) (q : Pr) (w : World) (h1 : w.cell? ⟨pb, 1, none⟩ = some (.int .u64 q.b)) (h2 : w.cell? ⟨pb, 2, none⟩ = some (.int .u8 q.n)) :
    Calls Ybaz.prog 35 #[.agg #[.int .u64 m.1, .int .u8 m.2], .pointer (some ⟨pb, 0, none⟩)] w fun e w' => e = .returned (.bool (same (q.b, q.n) m)) ∧ Below w.heap.size w w' := by
  have hpb : pb < w.heap.size := World.block_lt_of_cell? _ _ h1
  go_enter Ybaz.func35, Ybaz.ntmps35
  go_wp2
  all_goals (go_ret; exact ⟨by simp [same, *], (Below.refl _ w).alloc (Nat.le_refl _) _⟩)
end Go.Proofs.YbulkclxkGreat.del
