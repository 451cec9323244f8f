import Derived.Test.YbulkclxkGreatSearch
import Derived.Lib.AppendZerosOnto
import Derived.Lib.Overlaps
import Derived.Laws.Externs
import Derived.Laws.CopyRow
import Derived.Deep.RegionLaw
import Derived.OwnWalk
import Derived.Maps.AppendAt
namespace Go.Proofs.YbulkclxkGreat.ring
open Go.ChangeShapes Go.WideShapes Go.ChangeAt Go.RowKit
open lab
set_option linter.unusedVariables false

theorem info31 : (Ybaz.prog.info? 31).map (fun i => (i.zero, i.size, i.bytes)) = some (some (.agg #[.string ByteArray.empty, .int .u64 0, .int .u8 0]), 3, 32) := by kernel_rfl

/-- 'copy' of elements of three cells into a row that is known whole. -/
theorem run_copy_row3 {P : Program} (w : World) (dT sT ty elem : TypeId) (g o dLen dCap : Nat) (a : Addr) (sLen sCap : Nat) (cur : Array Value) (t : TypeId) (cs : List Value)
    (hu : P.underlying dT = some (.slice elem)) (hs : (P.info? elem).map (·.size) = some 3)
    (hg : w.heap[g]? = some (.cells cur t (0, 0))) (k : Nat) (hk : k = Nat.min sLen dLen) (hn : cs.length = k * 3)
    (hsrc : ∀ j v, cs[j]? = some v → w.cell? (a.add j) = some v) (hfit : o + cs.length ≤ cur.size) (h1 : ∀ v ∈ cs, v.oneCell' = true) :
    (Builtin.copy_ #[dT, sT] ty #[.slice (some ⟨g, o, none⟩) dLen dCap, .slice (some a) sLen sCap]).run P w =
      .ok (goInt k) (w.setRow g (cur.toList.take o ++ cs ++ cur.toList.drop (o + cs.length)).toArray) := by
  have hl := run_loadCells_list (P := P) w a cs hsrc
  have hst := run_storeCells_at P g o t cs 0 cur w hg (by simpa using hfit) h1
  cases hq : P.info? elem with
  | none => simp [hq] at hs
  | some i =>
    have hi : i.size = 3 := by simpa [hq] using hs
    subst hk
    rw [hn] at hl
    simp [Builtin.copy_, run_underlying hu, Builtin.lenOf, Builtin.firstCells, sizeOf, typeInfo, hq, hi, hl, hst]

/-- THE OPERATION 'copy(d, s)' FOR THE WALK, WHERE ITS RUN IS KNOWN BY AN EQUATION. -/
theorem wp_copy_run {P : Program} (w : World) {o : Oper} {a : Act} {K : Act → World → Prop} {Q : Exit → Act → World → Prop} (d s : Operand) (t t' : TypeId)
    (ho : o.op = .call { callee := .builtin .copy, args := #[d, s], argTypes := #[t, t'] }) (v u : Value) (hd : a.eval d = v) (hs : a.eval s = u) {v' : Value} {w' : World}
    (hr : (Builtin.copy_ #[t, t'] o.type #[v, u]).run P w = .ok v' w') (h : K (a.put o.dst v') w') : o.wp P a w K Q := by
  unfold Oper.wp execOp
  simp only [ho, resolve, invoke, builtin, Sem.run_bind, Sem.run_pure, Result.andThen_ok, List.map_toArray, List.map_cons, List.map_nil, hd, hs, hr]
  exact h

theorem wpList_copy_run {P : Program} (w : World) {ops : Array Oper} {rest : List Oper} {o : Oper} {a : Act} {Q : Exit → Act → World → Prop} (hgd : o.guard = none) (d s : Operand) (t t' : TypeId)
    (ho : o.op = .call { callee := .builtin .copy, args := #[d, s], argTypes := #[t, t'] }) (v u : Value) (hd : a.eval d = v) (hs : a.eval s = u) {v' : Value} {w' : World}
    (hr : (Builtin.copy_ #[t, t'] o.type #[v, u]).run P w = .ok v' w') (h : wpList P ops Q rest (a.put o.dst v') w') : wpList P ops Q (o :: rest) a w :=
  wpList_plain hgd fun _ hK => wp_copy_run w d s t t' ho v u hd hs hr (hK _ _ h)

/-- .. and as one step of a region that draws. -/
theorem step_copy_run {P : Program} {ops : Array Oper} {o : Oper} {a : Act} {w : World} {K : Act → World → Prop} {Q : Exit → Act → World → Prop} {E : Prop}
    (hg : o.guard = none) (d x : Operand) (dT sT : TypeId) (hop : o.op = Op.call { callee := Callee.builtin Builtin.copy, args := #[d, x], argTypes := #[dT, sT] })
    (v u : Value) (hd : a.eval d = v) (hx : a.eval x = u) {v' : Value} {w' : World} (hr : (Builtin.copy_ #[dT, sT] o.type #[v, u]).run P w = .ok v' w') (hK : K (a.put o.dst v') w') :
    if Region.wanted o (yielded ops a.tmps) = true then Oper.wp P o a w K Q else E := by
  have hw : Region.wanted o (yielded ops a.tmps) = true := by simp [Region.wanted, hg]
  rw [if_pos hw]
  unfold Oper.wp
  simp [execOp, hop, resolve, invoke, builtin, hd, hx, hr, Result.andThen]
  exact hK

theorem grownBy_setRow (w : World) (g : Nat) (R : Array Value) : w.grownBy (w.setRow g R) (some g) :=
  ⟨rfl, rfl, rfl, by simp [World.setRow], fun k hk hne => setRow_other w g k R (fun e => hne (by rw [e]))⟩
theorem grownBy_trans {w w1 w2 : World} {row : Option Nat} (h : w.grownBy w1 row) (k : w1.grownBy w2 row) : w.grownBy w2 row :=
  ⟨k.os.trans h.os, k.tape.trans h.tape, k.output.trans h.output, Nat.le_trans h.size k.size, fun i hi hne => (k.block i (Nat.lt_of_lt_of_le hi h.size) hne).trans (h.block i hi hne)⟩
theorem grownBy_drew (w : World) (row : Option Nat) : w.grownBy w.drew row := ⟨rfl, rfl, rfl, Nat.le_refl _, fun _ _ _ => rfl⟩

/-- The plain law of the two copies. -/
theorem shift_plain (D x : List Value) (i m : Nat) (hi : i < m) (hl : (m + 1) * 3 ≤ D.length) (hx : x.length = 3) (C : List Value) (hC : C = (D.drop (i * 3)).take ((m - i) * 3)) (D1 : List Value) (h1 : D1 = D.take ((i + 1) * 3) ++ C ++ D.drop ((i + 1) * 3 + C.length)) :
    D1.length = D.length ∧ (D1.take (i * 3) ++ x ++ D1.drop (i * 3 + x.length)).length = D.length ∧
    (D1.take (i * 3) ++ x ++ D1.drop (i * 3 + x.length)).take ((m + 1) * 3) = (D.take (m * 3)).take (i * 3) ++ x ++ (D.take (m * 3)).drop (i * 3) := by
  have hCl : C.length = (m - i) * 3 := by rw [hC, List.length_take, List.length_drop]; omega
  have hl1 : D1.length = D.length := by rw [h1]; simp only [List.length_append, List.length_take, List.length_drop, hCl]; omega
  have e1 : D1.take (i * 3) = D.take (i * 3) := by
    rw [h1, List.append_assoc, List.take_append_of_le_length (by rw [List.length_take]; omega), List.take_take]
    congr 1; omega
  have e2 : D1.drop (i * 3 + x.length) = C ++ D.drop ((i + 1) * 3 + C.length) := by
    rw [h1, hx, show i * 3 + 3 = (i + 1) * 3 by omega, List.append_assoc]
    have : (D.take ((i + 1) * 3)).length = (i + 1) * 3 := by rw [List.length_take]; omega
    rw [List.drop_append_of_le_length (by omega), List.drop_eq_nil_of_le (by omega), List.nil_append]
  have hlt : (D.take (i * 3)).length = i * 3 := by rw [List.length_take]; omega
  refine ⟨hl1, ?_, ?_⟩
  · rw [e1, e2]; simp only [List.length_append, List.length_take, List.length_drop, hCl, hx]; omega
  · rw [e1, e2, ← List.append_assoc, List.take_left' (by simp only [List.length_append, hlt, hx, hCl]; omega)]
    rw [List.take_take, List.drop_take, Nat.min_eq_left (by omega), hC, show m * 3 - i * 3 = (m - i) * 3 by omega]

set_option maxRecDepth 100000 in
set_option maxHeartbeats 1000000 in
/-- i below the length, room for one more: in place. -/
theorem insert_shift (B g m c i xb : Nat) (cur : Array Value) (x : List Value) (w : World) (hi : i < m) (hroom : m + 1 ≤ c) (hc : c ≤ maxLen) (hne : xb ≠ g) (hB : B ≤ g)
    (hg : w.heap[g]? = some (.cells cur 31 (0, 0))) (hs : cur.size = c * 3) (hx : w.heap[xb]? = some (.cells x.toArray 31 (0, 0))) (hxl : x.length = 3) (h1 : ∀ v ∈ cur.toList.take (m * 3), v.oneCell' = true) (h1x : ∀ v ∈ x, v.oneCell' = true) :
    Calls Ybaz.prog 25 #[.slice (some ⟨g, 0, none⟩) m c, .int .i64 i, .slice (some ⟨xb, 0, none⟩) 1 1] w fun e w' => e = .returned (.slice (some ⟨g, 0, none⟩) (m + 1) c) ∧
      w'.ownsRow B 31 3 (.slice (some ⟨g, 0, none⟩) (m + 1) c) (m + 1) ((cur.toList.take (m * 3)).take (i * 3) ++ x ++ (cur.toList.take (m * 3)).drop (i * 3)) ∧ w.grownBy w' (some g) := by
  have hcm := hc
  unfold maxLen at hc
  have i1 : (i : Int) < (m : Int) := by omega
  have e1 : ((i : Int) == (m : Int)) = false := beq_eq_false_iff_ne.2 (by omega)
  have e2 : ¬ (c : Int) < (m : Int) + 1 := by omega
  have hov : ∀ o lb cb, (callFunc 36 #[.slice (some ⟨xb, 0, none⟩) 1 1, .slice (some ⟨g, o, none⟩) lb cb]).run Ybaz.prog w = .ok (.value (.bool false)) w := fun o lb cb => by
    rw [run_callFunc_extern Ybaz.func36 (by kernel_rfl) (by kernel_rfl) (by kernel_rfl) (e := Extern.SlicesOverlaps.overlaps #[32, 32] #[4]) (by kernel_rfl),
      Lib.run_overlaps_apart w 32 4 31 Ybaz.underlying32 3 (fun w => by kernel_rfl) ⟨xb, 0, none⟩ ⟨g, o, none⟩ 1 1 lb cb hne 31 31 3 (c * 3) (by simp [World.shape?, hx, hxl]) (by simp [World.shape?, hg, hs]) (by omega) (by simp [World.frozen?, hx]) (by simp [World.frozen?, hx])]
    rfl
  have hsz : (Ybaz.prog.info? 31).map (·.size) = some 3 := by kernel_rfl
  have hDl : cur.toList.length = c * 3 := by simpa using hs
  obtain ⟨C, hC⟩ : ∃ C, C = (cur.toList.drop (i * 3)).take ((m - i) * 3) := ⟨_, rfl⟩
  obtain ⟨D1, hD1⟩ : ∃ D1, D1 = cur.toList.take ((i + 1) * 3) ++ C ++ cur.toList.drop ((i + 1) * 3 + C.length) := ⟨_, rfl⟩
  obtain ⟨pl1, pl2, pl3⟩ := shift_plain cur.toList x i m hi (by rw [hDl]; omega) hxl C hC D1 hD1
  have hCl : C.length = (m - i) * 3 := by rw [hC, List.length_take, List.length_drop, hDl]; omega
  have hcp1 : ∀ ty, (Builtin.copy_ #[32, 32] ty #[.slice (some ⟨g, (i + 1) * 3, none⟩) (m - i) (c - (i + 1)), .slice (some ⟨g, i * 3, none⟩) (m + 1 - i) (c - i)]).run Ybaz.prog w.drew = .ok (goInt (m - i : Nat)) (w.drew.setRow g D1.toArray) := fun ty => by
    have h := run_copy_row3 (P := Ybaz.prog) w.drew 32 32 ty 31 g ((i + 1) * 3) (m - i) (c - (i + 1)) ⟨g, i * 3, none⟩ (m + 1 - i) (c - i) cur 31 C Ybaz.underlying32 hsz hg (m - i) (by show _ = min _ _; omega) hCl
      (fun j v hj => by
        rw [add_plain]
        show w.cell? ⟨g, i * 3 + j, none⟩ = some v
        have hj' : j < (m - i) * 3 := by rw [← hCl]; exact (List.getElem?_eq_some_iff.1 hj).1
        rw [hC, List.getElem?_take, if_pos hj', List.getElem?_drop] at hj
        simpa [World.cell?, hg] using hj)
      (by rw [hCl, hs]; omega) (fun v hv => by
        refine h1 v ?_
        rw [hC] at hv
        obtain ⟨j, hj⟩ := List.getElem?_of_mem hv
        have hj' : j < (m - i) * 3 := by
          have := (List.getElem?_eq_some_iff.1 hj).1
          rw [List.length_take] at this; omega
        rw [List.getElem?_take, if_pos hj', List.getElem?_drop] at hj
        refine List.mem_of_getElem? (i := i * 3 + j) ?_
        rw [List.getElem?_take, if_pos (by omega)]
        exact hj)
    rw [← hD1] at h
    exact h
  have hg1 : (w.drew.setRow g D1.toArray).heap[g]? = some (.cells D1.toArray 31 (0, 0)) := setRow_heap w.drew g cur _ 31 (0, 0) hg
  have hx1 : (w.drew.setRow g D1.toArray).heap[xb]? = some (.cells x.toArray 31 (0, 0)) := (setRow_other w.drew g xb _ hne).trans hx
  have hcp2 : ∀ ty, (Builtin.copy_ #[32, 32] ty #[.slice (some ⟨g, i * 3, none⟩) (m + 1 - i) (c - i), .slice (some ⟨xb, 0, none⟩) 1 1]).run Ybaz.prog (w.drew.setRow g D1.toArray) = .ok (goInt (1 : Nat)) (w.drew.setRow g (D1.take (i * 3) ++ x ++ D1.drop (i * 3 + x.length)).toArray) := fun ty => by
    have h := run_copy_row3 (P := Ybaz.prog) (w.drew.setRow g D1.toArray) 32 32 ty 31 g (i * 3) (m + 1 - i) (c - i) ⟨xb, 0, none⟩ 1 1 D1.toArray 31 x Ybaz.underlying32 hsz hg1 1 (by show _ = min _ _; omega) hxl
      (fun j v hj => by
        rw [add_plain, Nat.zero_add]
        simpa [World.cell?, hx1] using hj)
      (by simp only [List.size_toArray, pl1, hDl, hxl]; omega) h1x
    rw [setRow_setRow] at h
    exact h
  obtain ⟨W1, hW1⟩ : ∃ W1, W1 = w.drew.setRow g D1.toArray := ⟨_, rfl⟩
  obtain ⟨W2, hW2⟩ : ∃ W2, W2 = w.drew.setRow g (D1.take (i * 3) ++ x ++ D1.drop (i * 3 + x.length)).toArray := ⟨_, rfl⟩
  rw [← hW1] at hcp1 hcp2
  rw [← hW2] at hcp2
  have hgrow : w.grownBy W2 (some g) := by rw [hW2]; exact grownBy_trans (grownBy_drew w _) (grownBy_setRow w.drew g _)
  have hown : W2.ownsRow B 31 3 (.slice (some ⟨g, 0, none⟩) (m + 1) c) (m + 1) ((cur.toList.take (m * 3)).take (i * 3) ++ x ++ (cur.toList.take (m * 3)).drop (i * 3)) := by
    refine ⟨?_, .inr ⟨g, c, (D1.take (i * 3) ++ x ++ D1.drop (i * 3 + x.length)).toArray, rfl, hB, ?_, hroom, hcm, ?_, ?_⟩⟩
    · rw [← pl3, List.length_take, pl2, hDl]; omega
    · rw [hW2]; exact setRow_heap w.drew g cur _ 31 (0, 0) hg
    · rw [List.size_toArray, pl2, hDl]
    · exact pl3
  clear hW1 hW2 hC hD1 pl1 pl2 pl3 hg1 hx1 hg hx h1 h1x
  have hw1 : IntKind.i64.wrap ((i : Int) + 1) = (i : Int) + 1 := by rw [IntKind.wrap_i64]; omega
  have hb1 : (0 : Int) ≤ (i : Int) + 1 := by omega
  have hb3 : (i : Int) + 1 ≤ (m : Int) + 1 := by omega
  have hb5 : (i : Int) ≤ (m : Int) + 1 := by omega
  have htn : ((i : Int) + 1).toNat = i + 1 := by omega
  have hb2 : ¬ (c = i + 1) := by omega
  have hb4 : ¬ (c = i) := by omega
  go_enter Ybaz.func25, Ybaz.ntmps25
  go_wp2_with (simp only [hov])
  go_region_law (refine step_copy_run rfl _ _ 32 32 rfl _ _ (by simp [Act.eval, Act.put]) (by simp [Act.eval, Act.put]) (hcp1 _) ?_)
  go_wp2_with ((with_reducible show Go.wpList _ _ _ _ _ _); refine wpList_copy_run _ rfl (.tmp 80) (.tmp 81) 32 32 rfl _ _ rfl rfl (hcp2 _) ?_)
  go_ret
  exact ⟨rfl, hown, hgrow⟩

/-- The plain law of the grown row. -/
theorem grow_plain (cs x Z : List Value) (i m : Nat) (hi : i < m) (hl : cs.length = m * 3) (hx : x.length = 3) (hZ : (m + 1 - i) * 3 ≤ Z.length) (R1 : List Value) (h1 : R1 = (cs.take (i * 3) ++ Z).take (i * 3) ++ x ++ (cs.take (i * 3) ++ Z).drop (i * 3 + x.length)) :
    R1.length = i * 3 + Z.length ∧ (R1.take ((i + 1) * 3) ++ cs.drop (i * 3) ++ R1.drop ((i + 1) * 3 + (cs.drop (i * 3)).length)).length = i * 3 + Z.length ∧
    (R1.take ((i + 1) * 3) ++ cs.drop (i * 3) ++ R1.drop ((i + 1) * 3 + (cs.drop (i * 3)).length)).take ((m + 1) * 3) = cs.take (i * 3) ++ x ++ cs.drop (i * 3) := by
  have hT : (cs.take (i * 3)).length = i * 3 := by rw [List.length_take]; omega
  have hD : (cs.drop (i * 3)).length = (m - i) * 3 := by rw [List.length_drop]; omega
  have e0 : (cs.take (i * 3) ++ Z).take (i * 3) = cs.take (i * 3) := List.take_left' hT
  have hR : R1.length = i * 3 + Z.length := by
    rw [h1, e0]; simp only [List.length_append, List.length_drop, hT, hx]; omega
  have e1 : R1.take ((i + 1) * 3) = cs.take (i * 3) ++ x := by
    rw [h1, e0, List.take_left' (by simp only [List.length_append, hT, hx]; omega)]
  refine ⟨hR, ?_, ?_⟩
  · simp only [List.length_append, List.length_take, List.length_drop, hR, hl]; omega
  · rw [e1, List.take_left' (by simp only [List.length_append, hT, hx, hD]; omega)]

theorem mem_drop_take {l : List Value} {v : Value} {k : Nat} (h : v ∈ l.drop k) : v ∈ l := List.mem_of_mem_drop h

set_option maxRecDepth 100000 in
set_option maxHeartbeats 1000000 in
/-- i below the length, no room: a new row. -/
theorem insert_grow (B g m i xb : Nat) (cur : Array Value) (x : List Value) (w : World) (hi : i < m) (hc : m ≤ 100000) (hB : B ≤ w.heap.size)
    (hg : w.heap[g]? = some (.cells cur 31 (0, 0))) (hs : cur.size = m * 3) (hx : w.heap[xb]? = some (.cells x.toArray 31 (0, 0))) (hxl : x.length = 3) (h1 : ∀ v ∈ cur.toList, v.oneCell' = true) (h1x : ∀ v ∈ x, v.oneCell' = true) :
    Calls Ybaz.prog 25 #[.slice (some ⟨g, 0, none⟩) m m, .int .i64 i, .slice (some ⟨xb, 0, none⟩) 1 1] w fun e w' => ∃ G, e = .returned (.slice (some ⟨w.heap.size, 0, none⟩) (m + 1) G) ∧
      w'.ownsRow B 31 3 (.slice (some ⟨w.heap.size, 0, none⟩) (m + 1) G) (m + 1) (cur.toList.take (i * 3) ++ x ++ cur.toList.drop (i * 3)) ∧ w.grownBy w' none := by
  obtain ⟨i0, hi0, hz0, hzs, hzb⟩ := info_parts info31
  have hgw : g < w.heap.size := (Array.getElem?_eq_some_iff.1 hg).1
  have hxw : xb < w.heap.size := (Array.getElem?_eq_some_iff.1 hx).1
  have hsz : (Ybaz.prog.info? 31).map (·.size) = some 3 := by kernel_rfl
  have hDl : cur.toList.length = m * 3 := by simpa using hs
  have hkk : (m : Int) + 1 - (i : Int) = ((m + 1 - i : Nat) : Int) := by omega
  have hik : i + (m + 1 - i) = m + 1 := by omega
  have hT : (cur.toList.take (i * 3)).length = i * 3 := by rw [List.length_take]; omega
  have hold : (Builtin.firstCells i0.size i (.slice (some ⟨g, 0, none⟩) i m)).run Ybaz.prog w.drew = .ok (cur.toList.take (i * 3)).toArray w.drew := by
    rw [hzs]
    exact run_firstCells_some w.drew 3 i ⟨g, 0, none⟩ i m (cur.toList.take (i * 3)) hT (fun j v hj => by
      rw [add_plain, Nat.zero_add]
      show w.cell? ⟨g, j, none⟩ = some v
      rw [List.getElem?_take] at hj
      split at hj
      · simpa [World.cell?, hg] using hj
      · cases hj)
  obtain ⟨G, hG⟩ : ∃ G, G = grownCap w (m + 1) m 31 := ⟨_, rfl⟩
  obtain ⟨Z, hZ⟩ : ∃ Z : List Value, Z = (Builtin.zeroCells (Value.agg #[.string ByteArray.empty, .int .u64 0, .int .u8 0]).cells (m + 1 - i) ++ Builtin.zeroCells (Value.agg #[.string ByteArray.empty, .int .u64 0, .int .u8 0]).cells (G - (m + 1))).toList := ⟨_, rfl⟩
  have hGn : m + 1 ≤ G := by rw [hG]; exact grownCap_ge w _ _ _
  have hGm : G ≤ maxLen := by rw [hG]; exact grownCap_le_maxLen w (m + 1) m 31 (by unfold maxLen; omega)
  have hZl : Z.length = (m + 1 - i) * 3 + (G - (m + 1)) * 3 := by
    rw [hZ, Array.length_toList, Array.size_append, size_zeroCells, size_zeroCells]
    rfl
  have hrz : ∀ ty, (Builtin.append_ #[32, 3] ty #[.slice (some ⟨g, 0, none⟩) i m, .int .i64 ((m : Int) + 1 - (i : Int))]).run Ybaz.prog w =
      .ok (.slice (some ⟨w.heap.size, 0, none⟩) (m + 1) G) (w.drew.alloc (.cells (cur.toList.take (i * 3) ++ Z).toArray 31)) := fun ty => by
    have h := Lib.run_append_grow_zeros w 32 3 ty 31 i0 _ .i64 .i64 Ybaz.underlying32 Ybaz.underlying3 hi0 hz0 (some ⟨g, 0, none⟩) i m (cur.toList.take (i * 3)) hold (m + 1 - i) (by omega) (by rw [hzs]; omega) (by omega) (by omega) (by rw [hzb]; omega) (by rw [hzb, hik]; exact growslice_fits (by omega) (by omega))
    rw [hik, ← hG] at h
    have e : (cur.toList.take (i * 3)).toArray ++ Builtin.zeroCells (Value.agg #[.string ByteArray.empty, .int .u64 0, .int .u8 0]).cells (m + 1 - i) ++ Builtin.zeroCells (Value.agg #[.string ByteArray.empty, .int .u64 0, .int .u8 0]).cells (G - (m + 1)) = (cur.toList.take (i * 3) ++ Z).toArray := by
      rw [hZ]
      apply Array.ext'
      simp only [Array.toList_append, List.append_assoc]
    rw [hkk, h, e]
  obtain ⟨W1, hW1⟩ : ∃ W1, W1 = w.drew.alloc (.cells (cur.toList.take (i * 3) ++ Z).toArray 31) := ⟨_, rfl⟩
  rw [← hW1] at hrz
  have hN1 : W1.heap[w.heap.size]? = some (.cells (cur.toList.take (i * 3) ++ Z).toArray 31 (0, 0)) := by rw [hW1]; exact heap_alloc_new w.drew _
  have hO1 : ∀ k, k < w.heap.size → W1.heap[k]? = w.heap[k]? := fun k hk => by rw [hW1]; exact Below.heap_alloc w.drew _ k hk
  obtain ⟨R1, hR1⟩ : ∃ R1, R1 = (cur.toList.take (i * 3) ++ Z).take (i * 3) ++ x ++ (cur.toList.take (i * 3) ++ Z).drop (i * 3 + x.length) := ⟨_, rfl⟩
  obtain ⟨pl1, pl2, pl3⟩ := grow_plain cur.toList x Z i m hi hDl hxl (by omega) R1 hR1
  have hcpA : ∀ ty dc, (Builtin.copy_ #[32, 32] ty #[.slice (some ⟨w.heap.size, i * 3, none⟩) (m + 1 - i) dc, .slice (some ⟨xb, 0, none⟩) 1 1]).run Ybaz.prog W1 = .ok (goInt (1 : Nat)) (W1.setRow w.heap.size R1.toArray) := fun ty dc => by
    have h := run_copy_row3 (P := Ybaz.prog) W1 32 32 ty 31 w.heap.size (i * 3) (m + 1 - i) dc ⟨xb, 0, none⟩ 1 1 _ 31 x Ybaz.underlying32 hsz hN1 1 (by show _ = min _ _; omega) hxl
      (fun j v hj => by
        rw [add_plain, Nat.zero_add]
        simpa [World.cell?, hO1 xb hxw, hx] using hj)
      (by simp only [List.size_toArray, List.length_append, hT, hZl, hxl]; omega) h1x
    rw [h, hR1]
  obtain ⟨W2, hW2⟩ : ∃ W2, W2 = W1.setRow w.heap.size R1.toArray := ⟨_, rfl⟩
  rw [← hW2] at hcpA
  have hN2 : W2.heap[w.heap.size]? = some (.cells R1.toArray 31 (0, 0)) := by rw [hW2]; exact setRow_heap W1 _ _ _ 31 (0, 0) hN1
  have hO2 : ∀ k, k < w.heap.size → W2.heap[k]? = w.heap[k]? := fun k hk => by rw [hW2, setRow_other W1 _ k _ (by omega)]; exact hO1 k hk
  have hCl : (cur.toList.drop (i * 3)).length = (m - i) * 3 := by rw [List.length_drop, hDl]; omega
  have hcpB : ∀ ty dc sc, (Builtin.copy_ #[32, 32] ty #[.slice (some ⟨w.heap.size, (i + 1) * 3, none⟩) (m - i) dc, .slice (some ⟨g, i * 3, none⟩) (m - i) sc]).run Ybaz.prog W2.drew = .ok (goInt (m - i : Nat)) (W2.drew.setRow w.heap.size (R1.take ((i + 1) * 3) ++ cur.toList.drop (i * 3) ++ R1.drop ((i + 1) * 3 + (cur.toList.drop (i * 3)).length)).toArray) := fun ty dc sc =>
    run_copy_row3 (P := Ybaz.prog) W2.drew 32 32 ty 31 w.heap.size ((i + 1) * 3) (m - i) dc ⟨g, i * 3, none⟩ (m - i) sc R1.toArray 31 (cur.toList.drop (i * 3)) Ybaz.underlying32 hsz hN2 (m - i) (by show _ = min _ _; omega) hCl
      (fun j v hj => by
        rw [add_plain]
        show W2.cell? ⟨g, i * 3 + j, none⟩ = some v
        rw [List.getElem?_drop] at hj
        simpa [World.cell?, hO2 g hgw, hg] using hj)
      (by simp only [List.size_toArray, pl1, hZl, hCl]; omega) (fun v hv => h1 v (List.mem_of_mem_drop hv))
  obtain ⟨W3, hW3⟩ : ∃ W3, W3 = W2.drew.setRow w.heap.size (R1.take ((i + 1) * 3) ++ cur.toList.drop (i * 3) ++ R1.drop ((i + 1) * 3 + (cur.toList.drop (i * 3)).length)).toArray := ⟨_, rfl⟩
  rw [← hW3] at hcpB
  have hN3 : W3.heap[w.heap.size]? = some (.cells (R1.take ((i + 1) * 3) ++ cur.toList.drop (i * 3) ++ R1.drop ((i + 1) * 3 + (cur.toList.drop (i * 3)).length)).toArray 31 (0, 0)) := by rw [hW3]; exact setRow_heap W2.drew _ _ _ 31 (0, 0) hN2
  have hgrow : w.grownBy W3 none := by
    refine ⟨?_, ?_, ?_, ?_, fun k hk _ => ?_⟩
    · rw [hW3, hW2, hW1]; rfl
    · rw [hW3, hW2, hW1]; rfl
    · rw [hW3, hW2, hW1]; rfl
    · have := (Array.getElem?_eq_some_iff.1 hN3).1; omega
    · rw [hW3, setRow_other W2.drew _ k _ (by omega)]; exact hO2 k hk
  have hown : W3.ownsRow B 31 3 (.slice (some ⟨w.heap.size, 0, none⟩) (m + 1) G) (m + 1) (cur.toList.take (i * 3) ++ x ++ cur.toList.drop (i * 3)) := by
    refine ⟨?_, .inr ⟨w.heap.size, G, _, rfl, hB, hN3, hGn, hGm, ?_, pl3⟩⟩
    · simp only [List.length_append, hT, hxl, hCl]; omega
    · rw [List.size_toArray, pl2, hZl]; omega
  clear hW1 hW2 hW3 hR1 pl1 pl2 pl3 hN1 hN2 hN3 hO1 hO2 hg hx h1 h1x hZ hG hold hkk hik
  have i1 : (i : Int) < (m : Int) := by omega
  have e1 : ((i : Int) == (m : Int)) = false := beq_eq_false_iff_ne.2 (by omega)
  have e2 : (m : Int) < (m : Int) + 1 := by omega
  have hw1 : IntKind.i64.wrap ((i : Int) + 1) = (i : Int) + 1 := by rw [IntKind.wrap_i64]; omega
  have hb1 : (0 : Int) ≤ (i : Int) + 1 := by omega
  have hb3 : (i : Int) + 1 ≤ (m : Int) + 1 := by omega
  have hb5 : (i : Int) ≤ (m : Int) + 1 := by omega
  have hb6 : (i : Int) ≤ (m : Int) := by omega
  have htn : ((i : Int) + 1).toNat = i + 1 := by omega
  have hb2 : ¬ (G = i + 1) := by omega
  have hb4 : ¬ (G = i) := by omega
  have hb7 : ¬ (m = i) := by omega
  have hb8 : ¬ (m = i + 1) ∨ m = i + 1 := by omega
  go_enter Ybaz.func25, Ybaz.ntmps25
  go_wp2_with (first
    | (at_builtin; refine Lib.wpList_append_run _ rfl _ _ _ _ rfl _ _ rfl rfl _ _ (hrz _) ?_)
    | ((with_reducible show Go.wpList _ _ _ _ _ _); refine wpList_copy_run _ rfl (.tmp 43) (.tmp 44) 32 32 rfl _ _ rfl rfl (hcpA _ _) ?_))
  go_region_law (refine step_copy_run rfl _ _ 32 32 rfl _ _ (by simp [Act.eval, Act.put]) (by simp [Act.eval, Act.put]) (hcpB _ _ _) ?_)
  go_wp2
  go_ret
  exact ⟨G, rfl, hown, hgrow⟩

theorem owns_x {w : World} {xb : Nat} {x : List Value} (hx : w.heap[xb]? = some (.cells x.toArray 31 (0, 0))) : ∀ j u, x[j]? = some u → w.cell? ((⟨xb, 0, none⟩ : Addr).add j) = some u := by
  intro j u hj
  rw [add_plain, Nat.zero_add]
  simpa [World.cell?, hx] using hj

set_option maxRecDepth 100000 in
set_option maxHeartbeats 1000000 in
theorem insert_end_some (B g m c xb : Nat) (cs x : List Value) (w : World) (hm : m ≤ 100000) (hB : B ≤ w.heap.size) (hown : w.ownsRow B 31 3 (.slice (some ⟨g, 0, none⟩) m c) m cs)
    (hx : w.heap[xb]? = some (.cells x.toArray 31 (0, 0))) (hxl : x.length = 3) (h1x : ∀ v ∈ x, v.oneCell' = true) (hcm : m ≤ c) :
    Calls Ybaz.prog 25 #[.slice (some ⟨g, 0, none⟩) m c, .int .i64 m, .slice (some ⟨xb, 0, none⟩) 1 1] w fun e w' => ∃ v', e = .returned v' ∧ w'.ownsRow B 31 3 v' (m + 1) (cs ++ x) ∧ w.grownBy w' (some g) ∧ (v'.ownBlock = some g ∨ v'.ownBlock = some w.heap.size) := by
  obtain ⟨i0, hi0, hz0, hzs, hzb⟩ := info_parts info31
  go_enter Ybaz.func25, Ybaz.ntmps25
  go_wp2_with (at_builtin; refine wpList_append_own_at _ rfl (.tmp 23) (.tmp 24) 32 rfl B 31 i0 (.agg #[.string ByteArray.empty, .int .u64 0, .int .u8 0]) 3 32 Ybaz.underlying32 hi0 hz0 hzs hzb rfl (by decide) _ m cs rfl hown ⟨xb, 0, none⟩ 1 1 x rfl hxl (owns_x hx) h1x (by unfold maxLen; omega) (by omega) hB ?_)
  all_goals
    intro v' w' hown' hgrow hnil hat
    go_wp2
    go_ret
    exact ⟨v', rfl, hown', hgrow, hat⟩

set_option maxRecDepth 100000 in
set_option maxHeartbeats 1000000 in
theorem insert_end_nil (B xb : Nat) (x : List Value) (w : World) (hB : B ≤ w.heap.size)
    (hx : w.heap[xb]? = some (.cells x.toArray 31 (0, 0))) (hxl : x.length = 3) (h1x : ∀ v ∈ x, v.oneCell' = true) :
    Calls Ybaz.prog 25 #[.slice none 0 0, .int .i64 0, .slice (some ⟨xb, 0, none⟩) 1 1] w fun e w' => ∃ v', e = .returned v' ∧ w'.ownsRow B 31 3 v' 1 x ∧ w.grownBy w' none ∧ (v'.ownBlock = none ∨ v'.ownBlock = some w.heap.size) := by
  obtain ⟨i0, hi0, hz0, hzs, hzb⟩ := info_parts info31
  go_enter Ybaz.func25, Ybaz.ntmps25
  go_wp2_with (at_builtin; refine wpList_append_own_at _ rfl (.tmp 23) (.tmp 24) 32 rfl B 31 i0 (.agg #[.string ByteArray.empty, .int .u64 0, .int .u8 0]) 3 32 Ybaz.underlying32 hi0 hz0 hzs hzb rfl (by decide) _ 0 [] rfl (World.ownsRow_nil _ _ _ _) ⟨xb, 0, none⟩ 1 1 x rfl hxl (owns_x hx) h1x (by unfold maxLen; omega) (by omega) hB ?_)
  intro v' w' hown' hgrow hnil hat
  go_wp2
  go_ret
  exact ⟨v', rfl, by simpa using hown', hgrow, hat⟩

/-- slices.Insert(s, i, x) onto a row that the call owns. -/
theorem insert_any (B m i xb : Nat) (v : Value) (cs x : List Value) (w : World) (hi : i ≤ m) (hm : m ≤ 100000) (hB : B ≤ w.heap.size) (hown : w.ownsRow B 31 3 v m cs) (h1 : ∀ u ∈ cs, u.oneCell' = true)
    (hx : w.heap[xb]? = some (.cells x.toArray 31 (0, 0))) (hxl : x.length = 3) (h1x : ∀ u ∈ x, u.oneCell' = true) (hne : v.ownBlock ≠ some xb) :
    Calls Ybaz.prog 25 #[v, .int .i64 i, .slice (some ⟨xb, 0, none⟩) 1 1] w fun e w' => ∃ v', e = .returned v' ∧ w'.ownsRow B 31 3 v' (m + 1) (cs.take (i * 3) ++ x ++ cs.drop (i * 3)) ∧ w.grownBy w' v.ownBlock ∧ (v'.ownBlock = v.ownBlock ∨ v'.ownBlock = some w.heap.size) := by
  have hown0 := hown
  obtain ⟨hcl, ⟨rfl, rfl⟩ | ⟨g, c, cur, rfl, hBg, hg, hmc, hcm, hs, htk⟩⟩ := hown
  · obtain rfl : i = 0 := by omega
    obtain rfl : cs = [] := List.eq_nil_of_length_eq_zero (by simpa using hcl)
    refine (insert_end_nil B xb x w hB hx hxl h1x).mono ?_
    rintro e w' ⟨v', rfl, h2, h3, h4⟩
    exact ⟨v', rfl, by simpa using h2, h3, h4⟩
  have hxg : xb ≠ g := fun e => hne (by rw [e]; rfl)
  by_cases him : i = m
  · subst him
    refine (insert_end_some B g i c xb cs x w hm hB hown0 hx hxl h1x hmc).mono ?_
    rintro e w' ⟨v', rfl, h2, h3, h4⟩
    refine ⟨v', rfl, ?_, h3, h4⟩
    rw [List.take_of_length_le (by omega), List.drop_eq_nil_of_le (by omega), List.append_nil]
    exact h2
  · by_cases hroom : m + 1 ≤ c
    · refine (insert_shift B g m c i xb cur x w (by omega) hroom hcm hxg hBg hg hs hx hxl (by rw [htk]; exact h1) h1x).mono ?_
      rintro e w' ⟨rfl, h2, h3⟩
      rw [htk] at h2
      exact ⟨_, rfl, h2, h3, .inl rfl⟩
    · obtain rfl : c = m := by omega
      have hall : cur.toList = cs := by rw [← htk, List.take_of_length_le (by simp [hs])]
      refine (insert_grow B g c i xb cur x w (by omega) hm hB hg hs hx hxl (by rw [hall]; exact h1) h1x).mono ?_
      rintro e w' ⟨G, rfl, h2, h3⟩
      rw [hall] at h2
      exact ⟨_, rfl, h2, ⟨h3.os, h3.tape, h3.output, h3.size, fun k hk _ => h3.block k hk (by simp)⟩, .inr rfl⟩
end Go.Proofs.YbulkclxkGreat.ring
