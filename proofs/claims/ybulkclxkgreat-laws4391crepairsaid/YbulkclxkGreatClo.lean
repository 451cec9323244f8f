import Derived.Test.YbulkclxkGreatRel
import Derived.Test.YbulkclxkGreatSortP
import Derived.Test.YbulkclxkGreatMin
import Derived.Test.YbulkclxkGreatMend
namespace Go.Proofs.YbulkclxkGreat.rep
open Go.ChangeShapes Go.WideShapes Go.ChangeAt Go.RowKit
open lab ring maps sup put hold order del srt
set_option linter.unusedVariables false

set_option maxRecDepth 100000 in
set_option maxHeartbeats 1000000 in
theorem closure62 (rbx rb g c m p q : Nat) (T : List (Nat × Nat)) (w : World) (hb : ∀ r ∈ T, r.2 < 24) (hl : T.length = m) (hm : m ≤ 1000) (hp : p < m) (hq : q < m)
    (c0 : w.cell? ⟨rbx, 0, none⟩ = some (.pointer (some ⟨rb, 0, none⟩))) (c1 : w.cell? ⟨rb, 0, none⟩ = some (.slice (some ⟨g, 0, none⟩) m c)) (hP : Row w g m (nth (Lf T))) :
    Calls Ybaz.prog 62 #[.int .i64 p, .int .i64 q, .pointer (some ⟨rbx, 0, none⟩)] w fun e w' => (∃ r, e = .returned (.int .i64 r)) ∧ Below w.heap.size w w' := by
  obtain ⟨_, p1, p2⟩ := hP p hp
  obtain ⟨_, q1, q2⟩ := hP q hq
  rw [nth_Lf T p (by omega)] at p1 p2
  rw [nth_Lf T q (by omega)] at q1 q2
  have hp24 : T[p].2 < 24 := hb _ (List.getElem_mem _)
  have hq24 : T[q].2 < 24 := hb _ (List.getElem_mem _)
  have HC : Hid (∀ wx, Calls Ybaz.prog 57 #[.agg #[.int .u64 (ent T[q]).b, .int .u8 (ent T[q]).n], .agg #[.int .u64 (ent T[p]).b, .int .u8 (ent T[p]).n]] wx fun e w' => e = .returned (.int .i64 (cmpI T[q].2 T[p].2)) ∧ Below wx.heap.size wx w') := fun wx => byNumber T[q].2 T[p].2 hq24 hp24 wx
  generalize ent T[q] = Q at *
  generalize ent T[p] = P at *
  generalize cmpI T[q].2 T[p].2 = r at HC
  have hrb : rb < w.heap.size := World.block_lt_of_cell? _ _ c1
  have hrbx : rbx < w.heap.size := World.block_lt_of_cell? _ _ c0
  have hg : g < w.heap.size := World.block_lt_of_cell? _ _ p1
  have i1 : (p : Int) < (m : Int) := by omega
  have i2 : (q : Int) < (m : Int) := by omega
  have i3 : (0 : Int) ≤ (p : Int) := by omega
  have i4 : (0 : Int) ≤ (q : Int) := by omega
  clear hP hb
  go_enter Ybaz.func62, Ybaz.ntmps62
  go_wp2_with fail
  go_region_held3 (fun w' => w'.cell? ⟨rbx, 0, none⟩ = some (.pointer (some ⟨rb, 0, none⟩)) ∧ w'.cell? ⟨rb, 0, none⟩ = some (.slice (some ⟨g, 0, none⟩) m c) ∧ w'.cell? ⟨g, p * 3 + 1, none⟩ = some (.int .u64 P.b) ∧ w'.cell? ⟨g, p * 3 + 2, none⟩ = some (.int .u8 P.n) ∧ w'.cell? ⟨g, q * 3 + 1, none⟩ = some (.int .u64 Q.b) ∧ w'.cell? ⟨g, q * 3 + 2, none⟩ = some (.int .u8 Q.n))
    (first | exact ⟨k0, k1, k2, k3, k4, k5⟩ | go_keep)
    ((go_at_call 57; refine (HC.out _).mono ?_; rintro e w2 ⟨rfl, hb2⟩
      have k0 := (hb2.cell (p := ⟨rbx, 0, none⟩) hrbx).trans c0
      have k1 := (hb2.cell (p := ⟨rb, 0, none⟩) hrb).trans c1
      have k2 := (hb2.cell (p := ⟨g, p * 3 + 1, none⟩) hg).trans p1
      have k3 := (hb2.cell (p := ⟨g, p * 3 + 2, none⟩) hg).trans p2
      have k4 := (hb2.cell (p := ⟨g, q * 3 + 1, none⟩) hg).trans q1
      have k5 := (hb2.cell (p := ⟨g, q * 3 + 2, none⟩) hg).trans q2))
  all_goals (
    go_wp2
    go_ret
    exact ⟨⟨_, rfl⟩, (Below.refl _ w).drew.trans (hb2.mono (by simp))⟩)

def helds (E : List (Nat × Nat)) (m k : Nat) : List Value := (List.range m).map fun x => .bool (hel E k x)
theorem helds_at (E : List (Nat × Nat)) (m k x : Nat) (h : x < m) : (helds E m k)[x]? = some (.bool (hel E k x)) := by simp [helds, List.getElem?_map, List.getElem?_range h]
theorem helds_zero (E : List (Nat × Nat)) (m : Nat) : helds E m 0 = List.replicate m (.bool false) := by
  simp [helds, hel, List.map_const']
theorem helds_set {E : List (Nat × Nat)} {m k : Nat} (hk : k < E.length) (h : E[k].2 < m) : (helds E m k).set E[k].2 (.bool true) = helds E m (k + 1) := by
  apply List.ext_getElem?
  intro y
  by_cases hy : y < m
  · rw [helds_at _ _ _ _ hy, hel_succ hk]
    by_cases e : E[k].2 = y
    · rw [e, List.getElem?_set_self (by simp [helds]; omega)]; simp
    · rw [List.getElem?_set_ne e, helds_at _ _ _ _ hy]
      have : decide (y = E[k].2) = false := by simp; omega
      rw [this, Bool.or_false]
  · rw [List.getElem?_eq_none (by simp [helds]; omega), List.getElem?_eq_none (by simp [helds]; omega)]
theorem helds_skip {E : List (Nat × Nat)} {m k : Nat} (hk : k < E.length) (h : m ≤ E[k].2) : helds E m k = helds E m (k + 1) := by
  refine List.map_congr_left (fun y hy => ?_)
  have : decide (y = E[k].2) = false := by have := List.mem_range.1 hy; simp; omega
  rw [hel_succ hk, this, Bool.or_false]

theorem info3 : (Ybaz.prog.info? 3).map (fun i => (i.zero, i.size, i.bytes)) = some (some (.int .i64 0), 1, 8) := by kernel_rfl
theorem ints_append (A C : List Nat) : ints (A ++ C) = ints A ++ ints C := List.map_append
theorem ints_length (A : List Nat) : (ints A).length = A.length := List.length_map _

/-- Two of an entry's three cells set: its label. -/
theorem storeL {w : World} {B g n c : Nat} {L : List Pr} (h : w.ownsRow B 31 3 (.slice (some ⟨g, 0, none⟩) n c) n (flat L)) (j : Nat) (hj : j < L.length) (b m : Int) :
    ((w.setCell ⟨g, j * 3 + 1, none⟩ (.int .u64 b)).setCell ⟨g, j * 3 + 2, none⟩ (.int .u8 m)).ownsRow B 31 3 (.slice (some ⟨g, 0, none⟩) n c) n (flat (L.set j ⟨(nth L j).a, b, m⟩)) ∧
    w.grownBy ((w.setCell ⟨g, j * 3 + 1, none⟩ (.int .u64 b)).setCell ⟨g, j * 3 + 2, none⟩ (.int .u8 m)) (some g) := by
  have h2 := h.stored (j * 3 + 1) (.int .u64 b)
  have h3 := h2.1.stored (j * 3 + 2) (.int .u8 m)
  have e : flat (L.set j ⟨(nth L j).a, b, m⟩) = ((flat L).set (j * 3 + 1) (.int .u64 b)).set (j * 3 + 2) (.int .u8 m) := by
    rw [flat_set]
    have h0 := (flat_at L j hj).1
    have hlt : j * 3 < (flat L).length := by rw [flat_length]; omega
    have : (flat L).set (j * 3) (.string (nth L j).a) = flat L := by
      rw [List.getElem?_eq_getElem hlt] at h0
      rw [← Option.some.inj h0, List.set_getElem_self]
    rw [this]
  rw [e]
  exact ⟨h3.1, grownBy_trans h2.2 h3.2⟩
end Go.Proofs.YbulkclxkGreat.rep
