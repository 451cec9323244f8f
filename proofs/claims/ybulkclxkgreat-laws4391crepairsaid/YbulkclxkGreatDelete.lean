import Derived.Test.YbulkclxkGreatDel
import Derived.Deep.RegionLaw
namespace Go.Proofs.YbulkclxkGreat.del
open Go.ChangeShapes Go.WideShapes Go.ChangeAt Go.RowKit
open lab ring maps sup put
set_option linter.unusedVariables false

/-- 'clear(s[i:n])' behind a row of i that the call owns. -/
theorem clear_tail {w : World} {B g n c i k : Nat} {e t : TypeId} {xs : List Value} (z : Value) (ht : Ybaz.prog.underlying t = some (.slice e)) (hv : ∀ w, (zeroValue e).run Ybaz.prog w = .ok z w) (hzk : z.cells.size = k) (hk : 0 < k) (h1 : ∀ v ∈ z.cells, v.oneCell' = true)
    (h : w.ownsRow B e k (.slice (some ⟨g, 0, none⟩) i c) i xs) (hi : i < n) (hnc : n ≤ c) :
    ∃ w', (∀ ty c', (Builtin.clear_ #[t] ty #[.slice (some ⟨g, i * k, none⟩) (n - i) c']).run Ybaz.prog w = .ok (.tuple #[]) w') ∧ w'.ownsRow B e k (.slice (some ⟨g, 0, none⟩) i c) i xs ∧ w.grownBy w' (some g) := by
  obtain ⟨hl, ⟨h', _⟩ | ⟨g', c0, cur, h', hb, hg, _, hcm, hcs, htake⟩⟩ := h
  · simp at h'
  · simp only [Value.slice.injEq, Option.some.injEq, Addr.mk.injEq, and_true, true_and] at h'
    obtain ⟨rfl, rfl⟩ := h'
    have hlen : (Builtin.zeroCells z.cells (n - i)).toList.length = (n - i) * k := by simp [Builtin.zeroCells, hzk]
    have hone : ∀ v ∈ (Builtin.zeroCells z.cells (n - i)).toList, v.oneCell' = true := by
      intro v hv'
      simp only [Builtin.zeroCells, Array.toList_map, List.mem_map, Array.toList_range, List.mem_range] at hv'
      obtain ⟨j, _, rfl⟩ := hv'
      rw [getElem!_pos _ _ (by rw [hzk]; exact Nat.mod_lt _ hk)]
      exact h1 _ (Array.getElem_mem _)
    have hfit : i * k + (n - i) * k ≤ cur.size := by
      rw [hcs, ← Nat.add_mul]; exact Nat.mul_le_mul_right _ (by omega)
    have hst := run_storeCells_at (P := Ybaz.prog) g (i * k) e (Builtin.zeroCells z.cells (n - i)).toList 0 cur w hg (by rw [hlen]; omega) hone
    obtain ⟨m, hm⟩ : ∃ m, n - i = m + 1 := ⟨n - i - 1, by omega⟩
    have hle : i * k ≤ n * k := Nat.mul_le_mul_right _ (by omega)
    have hle2 : n * k ≤ c * k := Nat.mul_le_mul_right _ hnc
    simp only [Nat.add_zero] at hst
    generalize hvs : (Builtin.zeroCells z.cells (n - i)).toList = vs at hst hlen hone
    refine ⟨w.setRow g (cur.toList.take (i * k) ++ vs ++ cur.toList.drop (i * k + vs.length)).toArray, fun ty c' => ?_, ⟨hl, .inr ⟨g, c, _, rfl, hb, setRow_heap w g cur _ e _ hg, by omega, hcm, ?_, ?_⟩⟩, ⟨rfl, rfl, rfl, by simp, fun j _ hj => setRow_other w g j _ (fun e => hj (by simp [e]))⟩⟩
    · rw [hm] at hvs ⊢
      simp [Builtin.clear_, run_underlying ht, hv, hvs, hst]
    · simp only [List.size_toArray, List.length_append, List.length_take, List.length_drop, Array.length_toList, hlen]
      omega
    · simp only [List.append_assoc]
      rw [List.take_append_of_le_length (by simp; omega), List.take_take, Nat.min_self, ← htake]

theorem step_append_run {ops : Array Oper} {o : Oper} {a : Act} {w w' : World} {K : Act → World → Prop} {Q : Exit → Act → World → Prop} {E : Prop} (hg : o.guard = none) (s x : Operand) (t : TypeId) (hop : o.op = Op.call { callee := Callee.builtin Builtin.append, args := #[s, x], argTypes := #[t, t] })
    (v u r : Value) (hs : a.eval s = v) (hx : a.eval x = u) (hrun : ∀ ty, (Builtin.append_ #[t, t] ty #[v, u]).run Ybaz.prog w = .ok r w') (hK : K (a.put o.dst r) w') :
    if Region.wanted o (yielded ops a.tmps) = true then Oper.wp Ybaz.prog o a w K Q else E := by
  have hw : Region.wanted o (yielded ops a.tmps) = true := by simp [Region.wanted, hg]
  rw [if_pos hw]
  unfold Oper.wp execOp
  simp only [hop, resolve, invoke, builtin, Sem.run_bind, Sem.run_pure, Result.andThen_ok, List.map_toArray, List.map_cons, List.map_nil, hs, hx, hrun]
  exact hK

theorem zero31' (w : World) : (zeroValue 31).run Ybaz.prog w = .ok (.agg #[.string ByteArray.empty, .int .u64 0, .int .u8 0]) w := by kernel_rfl

set_option maxRecDepth 100000 in
set_option maxHeartbeats 1000000 in
theorem delete79 (B g c n i : Nat) (L : List Pr) (w : World) (hn : L.length = n) (hm : n ≤ 1000) (hi : i < n) (hown : w.ownsRow B 31 3 (.slice (some ⟨g, 0, none⟩) n c) n (flat L)) :
    Calls Ybaz.prog 79 #[.slice (some ⟨g, 0, none⟩) n c, .int .i64 i, .int .i64 (i + 1)] w fun e w' => e = .returned (.slice (some ⟨g, 0, none⟩) (n - 1) c) ∧ w'.ownsRow B 31 3 (.slice (some ⟨g, 0, none⟩) (n - 1) c) (n - 1) (flat (L.take i ++ L.drop (i + 1))) ∧ w.grownBy w' (some g) := by
  have hcc : n ≤ c ∧ c ≤ maxLen := by
    obtain ⟨_, ⟨h', _⟩ | ⟨g', c0, cur, h', _, _, hnc, hcm, _⟩⟩ := hown
    · simp at h'
    · simp only [Value.slice.injEq, Option.some.injEq, Addr.mk.injEq, and_true, true_and] at h'
      obtain ⟨rfl, rfl⟩ := h'
      exact ⟨hnc, hcm⟩
  have hc1 := hcc.1
  have hc2 := hcc.2
  obtain ⟨i0, hi0, hz0, hzs, hzb⟩ := info_parts info31
  have hcut : w.ownsRow B 31 3 (.slice (some ⟨g, 0, none⟩) i c) i (flat (L.take i)) := by
    obtain ⟨hl, ⟨h', _⟩ | ⟨g', c0, cur, h', hb, hg, hnc, hcm, hcs, htake⟩⟩ := hown
    · simp at h'
    · simp only [Value.slice.injEq, Option.some.injEq, Addr.mk.injEq, and_true, true_and] at h'
      obtain ⟨rfl, rfl⟩ := h'
      refine ⟨by rw [flat_length, List.length_take]; omega, .inr ⟨g, c, cur, rfl, hb, hg, by omega, hcm, hcs, ?_⟩⟩
      rw [← flat_take, ← htake, List.take_take, Nat.min_eq_left (by omega)]
  have hA : ∀ ad : Addr, (c = i + 1 ∨ ad = ⟨g, (i + 1) * 3, none⟩) → ∃ w1, (∀ ty, (Builtin.append_ #[32, 32] ty #[.slice (some ⟨g, 0, none⟩) i c, .slice (some ad) (n - (i + 1)) (c - (i + 1))]).run Ybaz.prog w.drew = .ok (.slice (some ⟨g, 0, none⟩) (n - 1) c) w1) ∧ w1.ownsRow B 31 3 (.slice (some ⟨g, 0, none⟩) (n - 1) c) (n - 1) (flat (L.take i ++ L.drop (i + 1))) ∧ w.drew.grownBy w1 (some g) := by
    intro ad had
    obtain ⟨w1, hr, ho, hgr⟩ := run_append_fits (P := Ybaz.prog) w.drew B 32 0 31 i0 3 Ybaz.underlying32 hi0 hzs g i c (flat (L.take i)) hcut.drew ad (n - (i + 1)) (c - (i + 1)) (flat (L.drop (i + 1))) (by rw [flat_length, List.length_drop]; omega) (by
      intro j u hu
      have hjl : j < (flat (L.drop (i + 1))).length := (List.getElem?_eq_some_iff.1 hu).1
      rw [flat_length, List.length_drop] at hjl
      rcases had with e | e
      · omega
      · subst e
        have hadd : (⟨g, (i + 1) * 3, none⟩ : Addr).add j = ⟨g, (i + 1) * 3 + j, none⟩ := by unfold Addr.add; split <;> simp_all
        rw [hadd]
        show w.cell? _ = _
        rw [hown.cellAt _ (by omega), ← List.getElem?_drop, flat_drop]
        exact hu) (flat_one _) (by omega)
    have e1 : i + (n - (i + 1)) = n - 1 := by omega
    rw [e1] at hr ho
    rw [← flat_append] at ho
    exact ⟨w1, fun ty => hr, ho, hgr⟩
  clear hcut hown hcc
  have i1 : (i : Int) + 1 ≤ (n : Int) := by omega
  have i2 : ((i : Int) == (i : Int) + 1) = false := by simp; omega
  have i3 : (i : Int) ≤ (i : Int) + 1 := by omega
  have i4 : (n : Int) ≤ (c : Int) := by omega
  have j1 : i ≤ c := by omega
  have j2 : (0 : Int) ≤ (i : Int) + 1 := by omega
  have j3 : i + 1 ≤ n := by omega
  have j4 : (0 : Int) ≤ (i : Int) := by omega
  have j5 : i ≤ n := by omega
  have fin : ∀ w1, w1.ownsRow B 31 3 (.slice (some ⟨g, 0, none⟩) (n - 1) c) (n - 1) (flat (L.take i ++ L.drop (i + 1))) → ∃ w', (∀ ty c', (Builtin.clear_ #[32] ty #[.slice (some ⟨g, (n - 1) * 3, none⟩) 1 c']).run Ybaz.prog w1 = .ok (.tuple #[]) w') ∧ w'.ownsRow B 31 3 (.slice (some ⟨g, 0, none⟩) (n - 1) c) (n - 1) (flat (L.take i ++ L.drop (i + 1))) ∧ w1.grownBy w' (some g) := fun w1 h => by
    have := clear_tail (t := 32) (k := 3) (n := n) (.agg #[.string ByteArray.empty, .int .u64 0, .int .u8 0]) Ybaz.underlying32 zero31' rfl (by omega) (by simp [Value.cells, Value.oneCell']) h (by omega) hc1
    rwa [show n - (n - 1) = 1 by omega] at this
  by_cases hce : c = i + 1
  · obtain ⟨w1, hr, ho, hgr⟩ := hA ⟨g, 0, none⟩ (.inl hce)
    obtain ⟨w2, hr2, ho2, hgr2⟩ := fin w1 ho
    obtain rfl : n = i + 1 := by omega
    subst hce
    clear hA fin
    simp only [Nat.sub_self, Nat.add_sub_cancel] at hr hr2 ho2 ⊢
    have hn1 : (i : Int) ≤ (i : Int) + 1 := by omega
    go_enter Ybaz.func79, Ybaz.ntmps79
    go_wp2
    go_region_law (refine step_append_run rfl (.tmp 22) (.tmp 25) 32 rfl _ _ _ (by rfl) (by rfl) hr ?_)
    all_goals (
      go_wp2
      go_ret
      exact ⟨rfl, ho2, grownBy_trans (grownBy_trans (grown_below (Below.refl _ _).drew _) hgr) hgr2⟩)
  · obtain ⟨w1, hr, ho, hgr⟩ := hA ⟨g, (i + 1) * 3, none⟩ (.inr rfl)
    obtain ⟨w2, hr2, ho2, hgr2⟩ := fin w1 ho
    clear hA fin
    have e5 : ((n - 1 : Nat) : Int) ≤ (n : Int) := by omega
    have e6 : n - (n - 1) = 1 := by omega
    have e7 : ¬ c = n - 1 := by omega
    go_enter Ybaz.func79, Ybaz.ntmps79
    go_wp2
    go_region_law (refine step_append_run rfl (.tmp 22) (.tmp 25) 32 rfl _ _ _ (by rfl) (by rfl) hr ?_)
    all_goals (
      go_wp2

      go_ret
      exact ⟨rfl, ho2, grownBy_trans (grownBy_trans (grown_below (Below.refl _ _).drew _) hgr) hgr2⟩)
end Go.Proofs.YbulkclxkGreat.del
