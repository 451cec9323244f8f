import Derived.Test.YbulkclxkGreatTickSv
import Derived.Lib.SliceRun
import Derived.Deep.MidRow
namespace Go.Proofs.YbulkclxkGreat.rep
open Go.ChangeShapes Go.WideShapes Go.ChangeAt Go.RowKit
open lab ring maps sup put hold order del srt read
set_option linter.unusedVariables false

theorem cell_of {w : World} {b : Nat} {cs : Array Value} {t : TypeId} (h : w.heap[b]? = some (.cells cs t (0, 0))) (o : Nat) : w.cell? ⟨b, o, none⟩ = cs[o]? := by simp [World.cell?, h]
theorem frozen_of {w : World} {b : Nat} {cs : Array Value} {t : TypeId} (h : w.heap[b]? = some (.cells cs t (0, 0))) (o : Nat) : w.frozen? ⟨b, o, none⟩ = false := by simp [World.frozen?, h]

theorem St.keep {W w w' : World} {sb tb rb kb B n : Nat} {topic : ByteArray} {start : Int} {L : List Pr} {G : ByteArray → List (Int × Int)} {t0 t1 : Int} (h : St W w sb tb rb kb B topic start L n G t0 t1) (hsz : w.heap.size ≤ w'.heap.size) (hos : w'.os = w.os) (hta : w'.tape = w.tape) (hou : w'.output = w.output) (q : Nat)
    (hk : ∀ j, j < w.heap.size → j ≠ q → w'.heap[j]? = w.heap[j]?) (h1 : W.heap.size ≤ q) (h2 : q ≠ sb) (h3 : q ≠ tb) (h4 : q ≠ rb) (h5 : q ≠ kb) (h6 : q < B) : St W w' sb tb rb kb B topic start L n G t0 t1 := by
  have hz := h.szW
  obtain ⟨v, f, hr⟩ := h.ros
  exact { bel := ⟨hos.trans h.bel.os, hta.trans h.bel.tape, hou.trans h.bel.output, by have := h.bel.size; omega, fun j hj => (hk j (by omega) (by omega)).trans (h.bel.block j hj)⟩, hs := h.hs, hB := h.hB, ne := h.ne, sblk := (hk sb (by omega) (Ne.symm h2)).trans h.sblk, tmap := h.tmap.of_block (hk tb (by omega) (Ne.symm h3)),
          ros := ⟨v, f, Ros.keep hr hsz (fun j hj hs => hk j hj (by rcases hs with e | e | e; (rw [e]; exact Ne.symm h4); (rw [e]; exact Ne.symm h5); (have := (Ros.own_lt hr e).1; omega)))⟩ }

/-- The table of owners written over: nothing to the supervisor. -/
theorem Sv.poke {W w : World} {sb tb ow : Nat} {topic : ByteArray} {start : Int} {E : List (Nat × Nat)} (h : Sv W w sb tb ow topic start E) (h1 : W.heap.size ≤ ow) (h2 : ow ≠ sb) (h3 : ow ≠ tb) (x : Nat) (u : Value) : Sv W (w.setCell ⟨ow, x, none⟩ u) sb tb ow topic start E := by
  have hk : ∀ j, j ≠ ow → (w.setCell ⟨ow, x, none⟩ u).heap[j]? = w.heap[j]? := fun j hj => Below.heap_setCell _ _ _ _ hj
  have hsz : (w.setCell ⟨ow, x, none⟩ u).heap.size = w.heap.size := by simp [World.setCell]
  rcases h with ⟨rfl, h⟩ | ⟨rb, kb, B, g, v, f, h, hb, how⟩
  · obtain ⟨F, hm, hF⟩ := h.tmap
    exact .inl ⟨rfl, ⟨h.bel.os, h.bel.tape, h.bel.output, by rw [hsz]; exact h.bel.size, fun j hj => (hk j (by omega)).trans (h.bel.block j hj)⟩, (hk sb (Ne.symm h2)).trans h.sblk, F, hm.of_block (hk tb (Ne.symm h3)), hF⟩
  · refine .inr ⟨rb, kb, B, g, v, f, St.keep h (by rw [hsz]; exact Nat.le_refl _) rfl rfl rfl ow (fun j _ hj => hk j hj) h1 h2 h3 how.2.1 how.2.2 how.1, ⟨hb.con, hb.up, hb.len, Ros.keep hb.ros (by rw [hsz]; exact Nat.le_refl _) (fun j hj hs => hk j (by rcases hs with e | e | e; (rw [e]; exact Ne.symm how.2.1); (rw [e]; exact Ne.symm how.2.2); (have := (Ros.own_lt hb.ros e).1; have := how.1; omega)))⟩, how⟩
theorem Sv.bound {W w : World} {sb tb ow : Nat} {topic : ByteArray} {start : Int} {E : List (Nat × Nat)} (h : Sv W w sb tb ow topic start E) : ∀ q ∈ E, q.1 < 6 ∧ q.2 < 24 := by
  rcases h with ⟨rfl, h⟩ | ⟨rb, kb, B, g, v, f, h, hb, how⟩
  · simp
  · exact hb.con.bound

theorem arr_lit (o : Nat → Int) : arr 24 o = #[.int .i64 (o 0), .int .i64 (o 1), .int .i64 (o 2), .int .i64 (o 3), .int .i64 (o 4), .int .i64 (o 5), .int .i64 (o 6), .int .i64 (o 7), .int .i64 (o 8), .int .i64 (o 9), .int .i64 (o 10), .int .i64 (o 11), .int .i64 (o 12), .int .i64 (o 13), .int .i64 (o 14), .int .i64 (o 15), .int .i64 (o 16), .int .i64 (o 17), .int .i64 (o 18), .int .i64 (o 19), .int .i64 (o 20), .int .i64 (o 21), .int .i64 (o 22), .int .i64 (o 23)] := by simp [arr, List.range, List.range.loop]
theorem arr_congr {o o' : Nat → Int} (h : ∀ x, x < 24 → o x = o' x) : arr 24 o = arr 24 o' := by
  unfold arr
  congr 1
  exact List.map_congr_left (fun x hx => by rw [h x (List.mem_range.1 hx)])
theorem arr_start : arr 24 (fun x => if x < 0 then -1 else 0) = #[.int .i64 0, .int .i64 0, .int .i64 0, .int .i64 0, .int .i64 0, .int .i64 0, .int .i64 0, .int .i64 0, .int .i64 0, .int .i64 0, .int .i64 0, .int .i64 0, .int .i64 0, .int .i64 0, .int .i64 0, .int .i64 0, .int .i64 0, .int .i64 0, .int .i64 0, .int .i64 0, .int .i64 0, .int .i64 0, .int .i64 0, .int .i64 0] := by
  rw [arr_congr (o' := fun _ => 0) (fun x _ => by simp)]
  exact arr_lit (fun _ => 0)
theorem idx47 (o : Nat → Int) (k : Nat) (hk : k < 24) (w : World) : (Instr.index 47 (.agg (arr 24 o)) (.int .i64 k)).run Ybaz.prog w = .ok (.int .i64 (o k)) w := by
  have ha := arr_at o hk
  generalize arr 24 o = cs at *
  simp [Instr.index, run_underlying Ybaz.underlying47, asIntOf, go_sem, part, ha]
  intro h; omega
theorem tass (v : Value) (wx : World) : (Instr.typeAssert (.iface 41 v) 37 41 true).run Ybaz.prog wx = .ok (.tuple #[v, .bool true]) wx := by kernel_rfl
theorem lb0 : lb 0 = 0 := rfl
theorem ln0 : ln 0 = 1 := rfl
theorem size47 : (Ybaz.prog.info? 47).map (·.size) = some 24 := by kernel_rfl
theorem wpList_load47 {ops : Array Oper} {rest : List Oper} {op : Oper} {a : Act} {w : World} {Q : Exit → Act → World → Prop} (hgd : op.guard = none) (ho : op.op = .load 47 (.tmp 7)) (ow : Nat) (hx : a.eval (.tmp 7) = .pointer (some ⟨ow, 0, none⟩)) (oo : Nat → Int) (h : w.heap[ow]? = some (.cells (arr 24 oo) 47 (0, 0)))
    (hK : wpList Ybaz.prog ops Q rest (a.put op.dst (.agg (arr 24 oo))) w) : wpList Ybaz.prog ops Q (op :: rest) a w :=
  wpList_load_mid hgd 47 (.tmp 7) ho ow 0 hx ((List.range 24).map fun x => Value.int .i64 (oo x)) _ (fun j v hj => by
    rw [Nat.zero_add]
    refine (cell_of h j).trans ?_
    simp only [arr, List.getElem?_toArray]
    exact hj) Ybaz.underlying47 rfl (by rw [size47]; simp) hK
theorem idxLit (o : Nat → Int) (k : Nat) (hk : k < 24) (w : World) : (Instr.index 47 (.agg #[.int .i64 (o 0), .int .i64 (o 1), .int .i64 (o 2), .int .i64 (o 3), .int .i64 (o 4), .int .i64 (o 5), .int .i64 (o 6), .int .i64 (o 7), .int .i64 (o 8), .int .i64 (o 9), .int .i64 (o 10), .int .i64 (o 11), .int .i64 (o 12), .int .i64 (o 13), .int .i64 (o 14), .int .i64 (o 15), .int .i64 (o 16), .int .i64 (o 17), .int .i64 (o 18), .int .i64 (o 19), .int .i64 (o 20), .int .i64 (o 21), .int .i64 (o 22), .int .i64 (o 23)]) (.int .i64 k)).run Ybaz.prog w = .ok (.int .i64 (o k)) w := by rw [← arr_lit]; exact idx47 o k hk w
theorem arr_lit_at (o : Nat → Int) (k : Nat) (h : k < 24) : (#[.int .i64 (o 0), .int .i64 (o 1), .int .i64 (o 2), .int .i64 (o 3), .int .i64 (o 4), .int .i64 (o 5), .int .i64 (o 6), .int .i64 (o 7), .int .i64 (o 8), .int .i64 (o 9), .int .i64 (o 10), .int .i64 (o 11), .int .i64 (o 12), .int .i64 (o 13), .int .i64 (o 14), .int .i64 (o 15), .int .i64 (o 16), .int .i64 (o 17), .int .i64 (o 18), .int .i64 (o 19), .int .i64 (o 20), .int .i64 (o 21), .int .i64 (o 22), .int .i64 (o 23)] : Array Value)[k]? = some (.int .i64 (o k)) := by rw [← arr_lit]; exact arr_at o h

set_option maxRecDepth 100000 in
set_option maxHeartbeats 8000000 in
theorem law_walk (topic : ByteArray) (start : Int) (ae : Option Addr) (b off len cap : Nat) (A X : Nat → Nat) (w : World) (ht : topic.size ≤ maxLen) (hlen : len ≤ 300) (hA : ∀ i, i < len → A i ≤ 255 ∧ X i ≤ 255) (hae : 0 < len → ae = some ⟨b, off, none⟩)
    (hc : ∀ i, i < len → w.cell? ⟨b, off + i * 2, none⟩ = some (.int .u8 (A i)) ∧ w.cell? ⟨b, off + i * 2 + 1, none⟩ = some (.int .u8 (X i))) :
    Calls Ybaz.prog 4 #[.string topic, .int .u64 start, .slice ae len cap] w fun e w' => e = .returned (.bool true) ∧ Below w.heap.size w w' := by
  have HA : Hid (∀ i, i < len → A i ≤ 255 ∧ X i ≤ 255) := hA
  have HC : Hid (∀ i, i < len → w.cell? ⟨b, off + i * 2, none⟩ = some (.int .u8 (A i)) ∧ w.cell? ⟨b, off + i * 2 + 1, none⟩ = some (.int .u8 (X i))) := hc
  have Hae : Hid (0 < len → ae = some ⟨b, off, none⟩) := hae
  clear hA hc hae
  have i300 : ¬ (len : Int) > 300 := by omega
  go_enter Ybaz.func4, Ybaz.ntmps4
  go_wp2
  go_loopw [42, 8] (fun i _ wr => ∃ k : Nat, k ≤ 24 ∧ i = .int .i64 k ∧ Below w.heap.size w wr ∧ wr.heap[w.heap.size]? = some (.cells (arr 24 (fun x => if x < k then -1 else 0)) 47 (0, 0))) (fun i _ _ => 24 - (intOf i).toNat)
  case atStart => exact ⟨0, Nat.zero_le _, rfl, (Below.refl _ w).alloc (Nat.le_refl _) _, (heap_alloc_new _ _).trans (by rw [arr_start])⟩
  case round =>
    obtain ⟨k, hk, rfl, hB, hob⟩ := hrel
    by_cases hkr : k < 24
    · have i1 : (k : Int) < 24 := by omega
      have c0 := (cell_of hob k).trans (arr_at _ hkr)
      have f0 := frozen_of hob k
      go_wp2
      go_roundw
      case rel =>
        refine ⟨k + 1, by omega, by go_num, hB.setCell (p := ⟨w.heap.size, k, none⟩) (Nat.le_refl _) _, (setCell_at _ w.heap.size k _ _ _ hob).trans ?_⟩
        rw [arr_set]
        congr 3
        funext y
        by_cases e : y = k
        · subst e; simp
        · by_cases e2 : y < k
          · have h1 : y < k + 1 := by omega
            simp [e, e2, h1]
          · have h1 : ¬ y < k + 1 := by omega
            simp [e, e2, h1]
      case measure => simp [intOf]; omega
    · obtain rfl : k = 24 := by omega
      have hob' : wr.heap[w.heap.size]? = some (.cells (arr 24 (fun _ => -1)) 47 (0, 0)) := by
        rw [hob, arr_congr (o' := fun _ => -1) (fun x hx => by simp [hx])]
      clear hob
      have hszr : w.heap.size < wr.heap.size := (Array.getElem?_eq_some_iff.1 hob').1
      go_wp2_with (first
        | (go_at_call 5; refine (newSup start wr).mono ?_; rintro e w1 ⟨rfl, rfl⟩))
      have hB1 : Below w.heap.size w ((wr.alloc (.map #[] 0)).alloc (.cells #[.map (some wr.heap.size), .int .u64 start] 55)) := (hB.alloc hB.size _).alloc (by have := hB.size; simp; omega) _
      have hob1 : ((wr.alloc (.map #[] 0)).alloc (.cells #[.map (some wr.heap.size), .int .u64 start] 55)).heap[w.heap.size]? = some (.cells (arr 24 (fun _ => -1)) 47 (0, 0)) := (Below.heap_alloc _ _ _ (by simp; omega)).trans ((Below.heap_alloc _ _ _ hszr).trans hob')
      have hG1 : Hid (Gone w ((wr.alloc (.map #[] 0)).alloc (.cells #[.map (some wr.heap.size), .int .u64 start] 55)) (wr.heap.size + 1) wr.heap.size start) := ⟨hB1, by
          have := heap_alloc_new (wr.alloc (.map #[] 0)) (.cells #[.map (some wr.heap.size), .int .u64 start] 55)
          rwa [World.size_alloc] at this, fun _ => none, MapAt.alloc (MapAt.made wr) _, fun _ => rfl⟩
      have hsz1 : ((wr.alloc (.map #[] 0)).alloc (.cells #[.map (some wr.heap.size), .int .u64 start] 55)).heap.size = wr.heap.size + 2 := by simp
      generalize ((wr.alloc (.map #[] 0)).alloc (.cells #[.map (some wr.heap.size), .int .u64 start] 55)) = w1 at hB1 hob1 hG1 hsz1 ⊢
      generalize hsb : wr.heap.size = tb at *
      clear hob' hB
      go_loopw [11, 12, 13, 52] (fun _ _ _ i wr => ∃ (k : Nat) (o : Nat → Int) (E : List (Nat × Nat)), k ≤ len ∧ i = .int .i64 k ∧ E.length ≤ k ∧ Hid (Sv w wr (tb + 1) tb w.heap.size topic start E) ∧ Hid (Ow o E) ∧ wr.heap[w.heap.size]? = some (.cells (arr 24 o) 47 (0, 0)) ∧ tb + 2 ≤ wr.heap.size) (fun _ _ _ i _ => len - (intOf i).toNat)
      case atStart => exact ⟨0, fun _ => -1, [], Nat.zero_le _, rfl, Nat.le_refl _, .inl ⟨rfl, hG1.out⟩, Ow.start, hob1, by omega⟩
      case round =>
        obtain ⟨k, o, E, hk, rfl, hEl, hSv, hOw, hob, hszk⟩ := hrel
        by_cases hkr : k < len
        · obtain rfl := Hae.out (by omega)
          have hbe := hSv.out.bel
          obtain ⟨e0, e1⟩ := HC.out k hkr
          have hbl : b < w.heap.size := World.block_lt_of_cell? _ _ e0
          have c0 := (hbe.cell (p := ⟨b, off + k * 2, none⟩) hbl).trans e0
          have c1 := (hbe.cell (p := ⟨b, off + k * 2 + 1, none⟩) hbl).trans e1
          obtain ⟨hA1, hX1⟩ := HA.out k hkr
          have hq6 : ((A k : Nat) : Int).tmod 6 = ((A k % 6 : Nat) : Int) := by rw [Int.tmod_eq_emod_of_nonneg (by omega)]; rfl
          have hq24 : ((X k : Nat) : Int).tmod 24 = ((X k % 24 : Nat) : Int) := by rw [Int.tmod_eq_emod_of_nonneg (by omega)]; rfl
          have ha6 : A k % 6 < 6 := Nat.mod_lt _ (by omega)
          have hx24 : X k % 24 < 24 := Nat.mod_lt _ (by omega)
          generalize A k % 6 = a at *
          generalize X k % 24 = x at *
          generalize A k = Ak at *
          generalize X k = Xk at *
          have i1 : (k : Int) < (len : Int) := by omega
          have i2 : (x : Int) < 24 := by omega
          have oc : ∀ ob, (wr.alloc ob).cell? ⟨w.heap.size, x, none⟩ = some (.int .i64 (o x)) := fun ob => by
            rw [World.cell?_alloc_past _ _ _ (by show w.heap.size < _; omega)]
            exact (cell_of hob x).trans (arr_at _ hx24)
          have of : ∀ ob, (wr.alloc ob).frozen? ⟨w.heap.size, x, none⟩ = false := fun ob => frozen_of ((Below.heap_alloc _ _ _ (by omega)).trans hob) x
          have w1 : IntKind.u64.wrap (x : Int) = (x : Int) := by rw [IntKind.wrap_u64]; omega
          have hszw : w.heap.size < tb := by omega
          have HSq : Hid (Sv w ((wr.alloc (.cells #[.int .u8 (Ak : Nat), .int .u8 (Xk : Nat)] 49)).setCell ⟨w.heap.size, x, none⟩ (.int .i64 (a : Nat))) (tb + 1) tb w.heap.size topic start E) := (hSv.out.later ((Below.refl _ _).alloc (Nat.le_refl _) _)).poke (Nat.le_refl _) (by omega) (by omega) _ _
          have hobq : ((wr.alloc (.cells #[.int .u8 (Ak : Nat), .int .u8 (Xk : Nat)] 49)).setCell ⟨w.heap.size, x, none⟩ (.int .i64 (a : Nat))).heap[w.heap.size]? = some (.cells (arr 24 (fun y => if y = x then (a : Int) else o y)) 47 (0, 0)) := by
            rw [← arr_set]
            exact setCell_at _ w.heap.size x _ _ _ ((Below.heap_alloc _ _ _ (by omega)).trans hob)
          have hszq : ((wr.alloc (.cells #[.int .u8 (Ak : Nat), .int .u8 (Xk : Nat)] 49)).setCell ⟨w.heap.size, x, none⟩ (.int .i64 (a : Nat))).heap.size = wr.heap.size + 1 := by simp [World.setCell]
          have HH : Hid (∀ wx, Below ((wr.alloc (.cells #[.int .u8 (Ak : Nat), .int .u8 (Xk : Nat)] 49)).setCell ⟨w.heap.size, x, none⟩ (.int .i64 (a : Nat))).heap.size ((wr.alloc (.cells #[.int .u8 (Ak : Nat), .int .u8 (Xk : Nat)] 49)).setCell ⟨w.heap.size, x, none⟩ (.int .i64 (a : Nat))) wx → Calls Ybaz.prog 6 #[.pointer (some ⟨tb + 1, 0, none⟩), .string topic, .agg #[.string (nm a), .int .u64 (lb x), .int .u8 (ln x)]] wx fun e w' => e = .returned (.tuple #[]) ∧
              ∃ E', Sv w w' (tb + 1) tb w.heap.size topic start E' ∧ w'.heap[w.heap.size]? = wx.heap[w.heap.size]? ∧ E'.length ≤ E.length + 1 ∧ ∀ b y, (b, y) ∈ E' ↔ if y = x then b = a else (b, y) ∈ E) := fun wx hb =>
            hold_sv ht (HSq.out.later hb) (by omega) (by omega) (by have := hb.size; omega) (by omega) a x ha6 hx24
          go_wp2_with (first
            | (go_at_call 13; refine (cname a ha6 _).mono ?_; rintro e w2 ⟨rfl, rfl⟩)
            | (go_at_call 8; refine (labelOf_any x (by omega) _).mono ?_; rintro e w3 ⟨rfl, hb3⟩)
            | (go_at_call 6; refine (HH.out w3 hb3).mono ?_; rintro e w4 ⟨rfl, E', hSv4, hob4, hEl4, hmem4⟩
               have HS4 : Hid (Sv w w4 (tb + 1) tb w.heap.size topic start E') := hSv4
               have HO4 : Hid (Ow (fun y => if y = x then (a : Int) else o y) E') := hOw.out.step ha6 hmem4
               clear hSv4 hmem4))
          go_roundw
          case rel =>
            refine ⟨k + 1, fun y => if y = x then (a : Int) else o y, E', by omega, by go_num, by omega, HS4.out, HO4.out, hob4.trans ((hb3.block w.heap.size (by omega)).trans hobq), ?_⟩
            have hsv := HS4.out
            have h1 : tb < w4.heap.size := by
              rcases hsv with ⟨_, h⟩ | ⟨rb, kb, B, g, v, f, h, _⟩
              · obtain ⟨F, hm, _⟩ := h.tmap; exact hm.lt
              · exact h.szW.2.2.1
            have h2 : tb + 1 < w4.heap.size := by
              rcases hsv with ⟨_, h⟩ | ⟨rb, kb, B, g, v, f, h, _⟩
              · exact (Array.getElem?_eq_some_iff.1 h.sblk).1
              · exact h.szW.2.1
            omega
          case measure => simp [intOf]; omega
        · have hbnd := hSv.out.bound
          have HBd : Hid (∀ q ∈ E, q.2 < 24) := fun q hq => (hbnd q hq).2
          clear hbnd
          have hszw : w.heap.size < tb := by omega
          have HIx : Hid (∀ k, k < 24 → ∀ wx, (Instr.index 47 (.agg (arr 24 o)) (.int .i64 (k : Nat))).run Ybaz.prog wx = .ok (.int .i64 (o k)) wx) := fun k hk wx => idx47 o k hk wx
          have hoba : ∀ ob, (wr.alloc ob).heap[w.heap.size]? = some (.cells (arr 24 o) 47 (0, 0)) := fun ob => (Below.heap_alloc _ _ _ (by omega)).trans hob
          go_wp2_with (first | (refine wpList_load47 rfl rfl w.heap.size rfl o (hoba _) ?_))
          obtain ⟨wh, rfl⟩ : ∃ wh, wh = wr := ⟨_, rfl⟩
          have hbp0 : (wh.alloc (.cells #[.bool false, .bool false, .bool false, .bool false, .bool false, .bool false] 50)).heap[wh.heap.size]? = some (.cells (barr (pres o 0)) 50 (0, 0)) := by
            rw [pres_zero]; exact heap_alloc_new _ _
          have hBp0 : Below wh.heap.size wh (wh.alloc (.cells #[.bool false, .bool false, .bool false, .bool false, .bool false, .bool false] 50)) := (Below.refl _ _).alloc (Nat.le_refl _) _
          generalize (wh.alloc (.cells #[.bool false, .bool false, .bool false, .bool false, .bool false, .bool false] 50)) = wp0 at hbp0 hBp0 ⊢
          have HOr : Hid (∀ x, x < 24 → -1 ≤ o x ∧ o x < 6) := hOw.out.rng
          clear hoba
          go_loopw [15, 17, 78] (fun ct _ i wx => ∃ k : Nat, k ≤ 24 ∧ ct = .int .i64 (cntP o k) ∧ i = .int .i64 k ∧ Below wh.heap.size wh wx ∧ wx.heap[wh.heap.size]? = some (.cells (barr (pres o k)) 50 (0, 0))) (fun _ _ i _ => 24 - (intOf i).toNat)
          case atStart => exact ⟨0, Nat.zero_le _, by rw [cntP_zero]; rfl, rfl, hBp0, hbp0⟩
          case round =>
            obtain ⟨k2, hk2, rfl, rfl, hBx, hbp⟩ := hrel
            have hcl := cntP_le o k2
            by_cases hkr2 : k2 < 24
            · have i1 : (k2 : Int) < 24 := by omega
              have hixk := HIx.out k2 hkr2
              obtain ⟨hr1, hr2⟩ := HOr.out k2 hkr2
              have i5 : (0 : Int) ≤ (k2 : Int) := by omega
              by_cases hpos : 0 < o k2
              · obtain ⟨a0, ha0⟩ : ∃ a0 : Nat, o k2 = (a0 : Int) := ⟨(o k2).toNat, by omega⟩
                have h00 : 0 < a0 := by omega
                have h06 : a0 < 6 := by omega
                have b0 := (cell_of hbp a0).trans (barr_at _ h06)
                have f0 := frozen_of hbp a0
                have hd : decide ((a0 : Int) > 0) = true := by simp; omega
                have i6 : (a0 : Int) < 6 := by omega
                have HPn : Hid (pres o (k2 + 1) = fun a => if a = a0 then true else pres o k2 a) := pres_new h00 ha0
                have HCn : Hid (pres o k2 a0 = false → cntP o (k2 + 1) = cntP o k2 + 1) := cntP_new h00 h06 ha0
                have HPo : Hid (pres o k2 a0 = true → pres o (k2 + 1) = pres o k2) := fun hp => pres_old (fun a h1 h2 => by
                  have : a = a0 := by omega
                  rw [this]; exact hp)
                rw [ha0] at hixk
                clear hpos hr1 hr2 ha0
                cases hp : pres o k2 a0
                · rw [hp] at b0
                  go_wp2
                  go_roundw
                  case rel =>
                    refine ⟨k2 + 1, by omega, by rw [HCn.out hp]; go_num, by go_num, hBx.setCell (p := ⟨wh.heap.size, a0, none⟩) (Nat.le_refl _) _, (setCell_at _ wh.heap.size a0 _ _ _ hbp).trans ?_⟩
                    rw [barr_set, HPn.out]
                  case measure => simp [intOf]; omega
                · rw [hp] at b0
                  go_wp2
                  go_roundw
                  case rel =>
                    have hpp := HPo.out hp
                    exact ⟨k2 + 1, by omega, by simp only [cntP, hpp], by go_num, hBx, by rw [hpp]; exact hbp⟩
                  case measure => simp [intOf]; omega
              · have hd : decide (o k2 > 0) = false := by simp; omega
                have hpp : Hid (pres o (k2 + 1) = pres o k2) := pres_old (fun a h1 h2 => by omega)
                go_wp2
                go_roundw
                case rel => exact ⟨k2 + 1, by omega, by simp only [cntP, hpp.out], by go_num, hBx, by rw [hpp.out]; exact hbp⟩
                case measure => simp [intOf]; omega
            · obtain rfl : k2 = 24 := by omega
              have hpbl : wh.heap.size < wr.heap.size := (Array.getElem?_eq_some_iff.1 hbp).1
              by_cases hz : cntP o 24 = 0
              · have HT0 : Hid (Calls Ybaz.prog 10 #[.pointer (some ⟨tb + 1, 0, none⟩), .pointer none] wr fun e w' => ∃ ao c, e = .returned (.slice ao 0 c) ∧ Gone w w' (tb + 1) tb start) := tick_sv0 ht (hSv.out.later hBx) hOw.out HBd.out hz
                have hz1 : (((cntP o 24 : Nat) : Int) == 0) = true := by rw [hz]; rfl
                have hnil : ∀ wx, (binOp .eql 32 (.slice none 0 0) (.slice none 0 0)).run Ybaz.prog wx = .ok (.bool true) wx := fun wx => Lib.run_eql_slice_nil wx 32 _ _ _ _ 0 0 Ybaz.underlying32
                clear hz
                go_wp2_with (first
                  | (go_at_call 10; refine HT0.out.mono ?_; rintro e w5 ⟨ao5, c5, rfl, hG5⟩
                     have HG5 : Hid (Gone w w5 (tb + 1) tb start) := hG5
                     have HS9 : Hid (Calls Ybaz.prog 9 #[.pointer (some ⟨tb + 1, 0, none⟩), .string topic] w5 fun e w' => e = .returned (.slice none 0 0) ∧ w' = w5) := subs_none topic ht hG5
                     clear hG5)
                  | (go_at_call 9; refine HS9.out.mono ?_; rintro e w6 ⟨rfl, rfl⟩))
                go_ret
                exact ⟨rfl, HG5.out.bel⟩
              · have hz1 : (((cntP o 24 : Nat) : Int) == 0) = false := by rw [beq_eq_false_iff_ne]; omega
                have HT1 : Hid (Calls Ybaz.prog 10 #[.pointer (some ⟨tb + 1, 0, none⟩), .pointer none] wr fun e w' => ∃ go co O E' g' v' f' rb kb B t0 t1, e = .returned (.slice (some ⟨go, 0, none⟩) (O.length + 1) co) ∧ 0 < E'.length ∧ St w w' (tb + 1) tb rb kb B topic start (Lf E') (cnt g') (Gf g') t0 t1 ∧ Bk w' B rb kb E' g' t0 t1 start v' f' ∧ Rep E E' ∧
                    w'.ownsRow wr.heap.size 39 2 (.slice (some ⟨go, 0, none⟩) (O.length + 1) co) (O.length + 1) (envs E' topic start O ++ env E' topic start 0 true) ∧ (∀ i ∈ O, i < E'.length) ∧ O.length ≤ 1000 ∧ E'.length = cntP o 24 ∧ w'.heap[wh.heap.size]? = wr.heap[wh.heap.size]?) := tick_sv1 ht hSv.out hBx hOw.out HBd.out hz (Nat.le_refl _) hpbl
                have hcp6 := cntP_le o 24
                clear hz
                go_upto_region 31 with (first
                  | (go_at_call 10; refine HT1.out.mono ?_; rintro e w5 ⟨go, co, O, E', g', v', f', rb, kb, B, t0, t1, rfl, hpos, hst5, hbk5, hrep5, hrow5, hOi5, hOl5, hcl5, hpb5⟩
                     have HS9 : Hid (Calls Ybaz.prog 9 #[.pointer (some ⟨tb + 1, 0, none⟩), .string topic] w5 fun e w' => ∃ g' c', e = .returned (.slice (some ⟨g', 0, none⟩) E'.length c') ∧ w'.ownsRow w5.heap.size 31 3 (.slice (some ⟨g', 0, none⟩) E'.length c') E'.length (flat (Lf E')) ∧ Below w5.heap.size w5 w') := by
                       have := subs_any w (tb + 1) tb rb kb B _ topic start (Lf E') (Gf g') t0 t1 w5 ht hst5 (by rw [Lf_length]; exact hpos) (by rw [Lf_length]; have := hbk5.len; omega)
                       rw [Lf_length] at this
                       exact this
                     have HREP : Hid (Rep E E') := hrep5
                     have HUP : Hid (Up E') := hbk5.up
                     have HBND : Hid (∀ q ∈ E', q.1 < 6 ∧ q.2 < 24) := hbk5.con.bound
                     have HBEL : Hid (Below w.heap.size w w5) := hst5.bel
                     have HROW : Hid (w5.ownsRow wr.heap.size 39 2 (.slice (some ⟨go, 0, none⟩) (O.length + 1) co) (O.length + 1) (envs E' topic start O ++ env E' topic start 0 true)) := hrow5
                     have HOI : Hid (∀ i ∈ O, i < E'.length) := hOi5
                     have HCL : Hid (E'.length = cntP o 24) := hcl5
                     have hmc : (((E'.length : Nat) : Int) != ((cntP o 24 : Nat) : Int)) = false := by rw [hcl5]; simp
                     have hm6 : E'.length ≤ 6 := by omega
                     have hco1 : O.length + 1 ≤ co := by
                       obtain ⟨_, ⟨h', _⟩ | ⟨g9, c9, cur, h', _, _, hnc, hcm, _⟩⟩ := hrow5
                       · simp at h'
                       · simp only [Value.slice.injEq, Option.some.injEq, Addr.mk.injEq, and_true, true_and] at h'
                         obtain ⟨rfl, rfl⟩ := h'
                         exact hnc
                     clear hst5 hbk5 hrep5 hrow5 hOi5 hcl5)
                  | (go_at_call 9; refine HS9.out.mono ?_; rintro e w6 ⟨gr, cr, rfl, hown6, hb6⟩))
                have hgr6 := (hown6.lt gr rfl).2
                have HRW : Hid (Row w6 gr E'.length (nth (Lf E'))) := by
                  have := row_of (L := Lf E') (w := w6) (B := w5.heap.size) (g := gr) (c := cr) (by rw [Lf_length]; exact hown6)
                  rwa [Lf_length] at this
                have hgo5 := HROW.out.lt go rfl
                have hb6s := hb6.size
                have HOUT : Hid (∀ k (hk : k < O.length), w6.cell? ⟨go, k * 2, none⟩ = some (.string (nth (Lf E') O[k]).a) ∧ w6.cell? ⟨go, k * 2 + 1, none⟩ = some (.iface 41 (.agg (cfgE E' topic start O[k] false)))) := fun k hk => by
                  have h1 := envs_at E' topic start O k hk
                  have hl := envs_length E' topic start O
                  exact ⟨(hb6.cell (p := ⟨go, k * 2, none⟩) hgo5.2).trans ((HROW.out.cellAt _ (by omega)).trans ((List.getElem?_append_left (by omega)).trans h1.1)), (hb6.cell (p := ⟨go, k * 2 + 1, none⟩) hgo5.2).trans ((HROW.out.cellAt _ (by omega)).trans ((List.getElem?_append_left (by omega)).trans h1.2))⟩
                have HLST : Hid (w6.cell? ⟨go, O.length * 2, none⟩ = some (.string (nth (Lf E') 0).a) ∧ w6.cell? ⟨go, O.length * 2 + 1, none⟩ = some (.iface 41 (.agg (cfgE E' topic start 0 true)))) := by
                  have hl := envs_length E' topic start O
                  refine ⟨(hb6.cell (p := ⟨go, O.length * 2, none⟩) hgo5.2).trans ((HROW.out.cellAt _ (by omega)).trans ?_), (hb6.cell (p := ⟨go, O.length * 2 + 1, none⟩) hgo5.2).trans ((HROW.out.cellAt _ (by omega)).trans ?_)⟩
                  · rw [List.getElem?_append_right (by omega), hl, Nat.sub_self]; rfl
                  · rw [List.getElem?_append_right (by omega), hl, show O.length * 2 + 1 - O.length * 2 = 1 by omega]; rfl
                have hpb6 : w6.heap[wh.heap.size]? = some (.cells (barr (pres o 24)) 50 (0, 0)) := by
                  have h5 : wh.heap.size < w5.heap.size := (Array.getElem?_eq_some_iff.1 (hpb5.trans hbp)).1
                  exact (hb6.block _ h5).trans (hpb5.trans hbp)
                have hpb6l : wh.heap.size < w6.heap.size := (Array.getElem?_eq_some_iff.1 hpb6).1
                have hgo6 : go < w6.heap.size := by omega
                have HB6 : Hid (Below w.heap.size w w6) := HBEL.out.trans (hb6.mono HBEL.out.size)
                have HPr : Hid (∀ q ∈ E', pres o 24 q.1 = true) := fun q hq => pres_of hOw.out HBd.out HREP.out hq
                generalize cntP o 24 = cp at *
                clear hown6 hb6 hpb5 hbp hBx HROW HT1 hSv hOw HS9 HBEL hBp0 hbp0 hob HIx HOr HBd hcl
                go_wp2_with fail
                obtain ⟨sn, hsn⟩ : ∃ sn, sn = w6.heap.size := ⟨_, rfl⟩
                have hbs0 : (w6.alloc (.cells #[.bool false, .bool false, .bool false, .bool false, .bool false, .bool false] 50)).heap[w6.heap.size]? = some (.cells (barr (seen E' 0)) 50 (0, 0)) := by rw [seen_zero]; exact heap_alloc_new _ _
                have hBs0 : Below w6.heap.size w6 (w6.alloc (.cells #[.bool false, .bool false, .bool false, .bool false, .bool false, .bool false] 50)) := (Below.refl _ _).alloc (Nat.le_refl _) _
                generalize (w6.alloc (.cells #[.bool false, .bool false, .bool false, .bool false, .bool false, .bool false] 50)) = ws0 at hbs0 hBs0 ⊢
                clear hsn sn
                go_loopw [23, 24, 115] (fun _ _ i wx => ∃ k : Nat, k ≤ E'.length ∧ i = .int .i64 k ∧ Below w6.heap.size w6 wx ∧ wx.heap[w6.heap.size]? = some (.cells (barr (seen E' k)) 50 (0, 0))) (fun _ _ i _ => E'.length - (intOf i).toNat)
                case atStart => exact ⟨0, Nat.zero_le _, rfl, hBs0, hbs0⟩
                case round =>
                  obtain ⟨k4, hk4, rfl, hB4, hbs⟩ := hrel
                  have hszr4 : w6.heap.size < wr.heap.size := (Array.getElem?_eq_some_iff.1 hbs).1
                  by_cases hkr4 : k4 < E'.length
                  · --F4
                    obtain ⟨a0, a1, a2⟩ := (HRW.out.later hB4 hgr6) k4 hkr4
                    rw [nth_Lf E' k4 hkr4] at a0 a1 a2
                    have hq := List.getElem_mem hkr4
                    have hp1 : 0 < E'[k4].1 := HREP.out.pos _ hq
                    have hp6 : E'[k4].1 < 6 := (HBND.out _ hq).1
                    have hpr := HPr.out _ hq
                    have hsn := seen_not HREP.out.nod hkr4
                    have HSS : Hid (seen E' (k4 + 1) = fun a => if a = E'[k4].1 then true else seen E' k4 a) := seen_succ hkr4
                    have hent : ent E'[k4] = ⟨nm E'[k4].1, (ent E'[k4]).b, (ent E'[k4]).n⟩ := rfl
                    rw [hent] at a0 a1 a2
                    generalize (ent E'[k4]).b = eb at a0 a1 a2
                    generalize (ent E'[k4]).n = en at a0 a1 a2
                    clear hent hq
                    generalize E'[k4].1 = a at *
                    simp only at a0 a1 a2
                    have i1 : (k4 : Int) < (E'.length : Int) := by omega
                    have i2 : ((a : Int) == 0) = false := by rw [beq_eq_false_iff_ne]; omega
                    have i3 : (a : Int) < 6 := by omega
                    have pc : ∀ ob, (wr.alloc ob).cell? ⟨wh.heap.size, a, none⟩ = some (.bool true) := fun ob => by
                      rw [World.cell?_alloc_past _ _ _ (by show wh.heap.size < _; omega)]
                      exact (hB4.cell (p := ⟨wh.heap.size, a, none⟩) hpb6l).trans ((cell_of hpb6 a).trans (by rw [barr_at _ hp6, hpr]))
                    have sc : ∀ ob, (wr.alloc ob).cell? ⟨w6.heap.size, a, none⟩ = some (.bool false) := fun ob => by
                      rw [World.cell?_alloc_past _ _ _ (by show w6.heap.size < _; omega)]
                      exact (cell_of hbs a).trans (by rw [barr_at _ hp6, hsn])
                    have sf : ∀ ob, (wr.alloc ob).frozen? ⟨w6.heap.size, a, none⟩ = false := fun ob => frozen_of ((Below.heap_alloc _ _ _ (by omega)).trans hbs) a
                    go_wp2_with (first
                      | (go_at_call 14; refine (cidx a hp1 hp6 _).mono ?_; rintro e w7 ⟨rfl, rfl⟩))
                    go_roundw
                    case rel =>
                      have hBs := hB4.setCell (p := ⟨w6.heap.size, a, none⟩) (Nat.le_refl _) (.bool true)
                      refine ⟨k4 + 1, by omega, by go_num, hBs.alloc hBs.size _, ?_⟩
                      rw [HSS.out, ← barr_set]
                      exact (Below.heap_alloc _ _ _ (by simp [World.setCell]; omega)).trans (setCell_at _ w6.heap.size a _ _ _ hbs)
                    case measure => simp [intOf]; omega
                  · --G4
                    obtain ⟨wa, rfl⟩ : ∃ wa, wa = wr := ⟨_, rfl⟩
                    go_wp2_with fail
                    go_loopw [25, 26, 28] (fun xv _ _ wx => ∃ x : Nat, x ≤ E'.length ∧ xv = .int .i64 x ∧ Below w6.heap.size w6 wx) (fun xv _ _ _ => E'.length - (intOf xv).toNat)
                    case atStart => exact ⟨0, Nat.zero_le _, rfl, hB4⟩
                    case round =>
                      obtain ⟨x, hx, rfl, hB5⟩ := hrel
                      by_cases hxr : x < E'.length
                      · --F5
                        have i1 : (x : Int) < (E'.length : Int) := by omega
                        have u1 : IntKind.u64.wrap (x : Int) = (x : Int) := by rw [IntKind.wrap_u64]; omega
                        have hta := tally_one HREP.out hxr
                        have HTA : Hid (tally E' E'.length x = 1) := hta
                        have htz := tally_zero E' x
                        obtain ⟨wb, rfl⟩ : ∃ wb, wb = wr := ⟨_, rfl⟩
                        clear hta
                        go_wp2_with fail
                        go_loopw [26, 28, 145] (fun c _ jv wx => ∃ jj : Nat, jj ≤ E'.length ∧ jv = .int .i64 jj ∧ c = .int .i64 (tally E' jj x) ∧ Below w6.heap.size w6 wx) (fun _ _ jv _ => E'.length - (intOf jv).toNat)
                        case atStart => exact ⟨0, Nat.zero_le _, rfl, by rw [htz]; rfl, hB5⟩
                        case round =>
                          obtain ⟨jj, hjj, rfl, rfl, hB6'⟩ := hrel
                          have htl := tally_le E' jj x
                          by_cases hjr : jj < E'.length
                          · obtain ⟨a0, a1, a2⟩ := (HRW.out.later hB6' hgr6) jj hjr
                            rw [nth_Lf E' jj hjr] at a0 a1 a2
                            have hy24 : E'[jj].2 < 24 := (HBND.out _ (List.getElem_mem _)).2
                            have HTS : Hid (tally E' (jj + 1) x = tally E' jj x + if E'[jj].2 = x then 1 else 0) := tally_succ hjr
                            have hent : ent E'[jj] = ⟨(ent E'[jj]).a, lb E'[jj].2, ln E'[jj].2⟩ := rfl
                            rw [hent] at a0 a1 a2
                            generalize (ent E'[jj]).a = ea at a0 a1 a2
                            generalize E'[jj].2 = y at *
                            simp only at a0 a1 a2
                            clear hent
                            have i2 : (jj : Int) < (E'.length : Int) := by omega
                            have HL8 : Hid (∀ wx, Calls Ybaz.prog 8 #[.int .u64 (x : Nat)] wx fun e w' => e = .returned (.agg #[.int .u64 (lb x), .int .u8 (ln x)]) ∧ Below wx.heap.size wx w') := fun wx => labelOf_any x (by omega) wx
                            have hbx : ∀ q, (wr.alloc (.cells #[.string ea, .int .u64 (lb y), .int .u8 (ln y)] 31)).cell? ⟨wr.heap.size, q, none⟩ = (#[.string ea, .int .u64 (lb y), .int .u8 (ln y)] : Array Value)[q]? := fun q => by rw [World.cell?_alloc_at _ _ _ _ rfl]
                            have z1 := hbx 1
                            have z2 := hbx 2
                            by_cases hyx : y = x
                            · subst hyx
                              go_wp2_with fail
                              go_region_held3 (fun w' => w'.cell? ⟨wr.heap.size, 1, none⟩ = some (.int .u64 (lb y)) ∧ w'.cell? ⟨wr.heap.size, 2, none⟩ = some (.int .u8 (ln y)))
                                (first | exact ⟨p1, p2⟩ | exact ⟨z1, z2⟩ | go_keep)
                                ((go_at_call 8; refine (HL8.out _).mono ?_; rintro e w8 ⟨rfl, hb8⟩
                                  have p1 : w8.cell? ⟨wr.heap.size, 1, none⟩ = some (.int .u64 (lb y)) := (hb8.cell (p := ⟨wr.heap.size, 1, none⟩) (by simp)).trans z1
                                  have p2 : w8.cell? ⟨wr.heap.size, 2, none⟩ = some (.int .u8 (ln y)) := (hb8.cell (p := ⟨wr.heap.size, 2, none⟩) (by simp)).trans z2))
                              all_goals (
                                go_wp2
                                go_roundw
                                case rel =>
                                  refine ⟨jj + 1, by omega, by go_num, ?_, (hB6'.alloc hB6'.size _).trans (((Below.refl _ _).drew).trans (hb8.mono (by have := hB6'.size; simp; omega)))⟩
                                  rw [HTS.out]; simp
                                case measure => simp [intOf]; omega)
                            · have hlne : ¬ (lb y = lb x ∧ ln y = ln x) := fun e => hyx (lbl_inj y hy24 x (by omega) (Prod.ext e.1 e.2))
                              have hcmp : (lb y ≠ lb x) ∨ (ln y ≠ ln x) := by
                                by_cases e : lb y = lb x
                                · exact .inr (fun e2 => hlne ⟨e, e2⟩)
                                · exact .inl e
                              clear hlne
                              rcases hcmp with hc | hc
                              all_goals (
                                go_wp2_with fail
                                go_region_held3 (fun w' => w'.cell? ⟨wr.heap.size, 1, none⟩ = some (.int .u64 (lb y)) ∧ w'.cell? ⟨wr.heap.size, 2, none⟩ = some (.int .u8 (ln y)))
                                  (first | exact ⟨p1, p2⟩ | exact ⟨z1, z2⟩ | go_keep)
                                  ((go_at_call 8; refine (HL8.out _).mono ?_; rintro e w8 ⟨rfl, hb8⟩
                                    have p1 : w8.cell? ⟨wr.heap.size, 1, none⟩ = some (.int .u64 (lb y)) := (hb8.cell (p := ⟨wr.heap.size, 1, none⟩) (by simp)).trans z1
                                    have p2 : w8.cell? ⟨wr.heap.size, 2, none⟩ = some (.int .u8 (ln y)) := (hb8.cell (p := ⟨wr.heap.size, 2, none⟩) (by simp)).trans z2))
                                all_goals (
                                  go_wp2
                                  go_roundw
                                  case rel =>
                                    refine ⟨jj + 1, by omega, by go_num, ?_, (hB6'.alloc hB6'.size _).trans (((Below.refl _ _).drew).trans (hb8.mono (by have := hB6'.size; simp; omega)))⟩
                                    rw [HTS.out, if_neg hyx]; go_num
                                  case measure => simp [intOf]; omega))
                          · obtain rfl : E'.length = jj := by omega
                            have ht1 : ((tally E' E'.length x : Nat) : Int) = 1 := by rw [HTA.out]; rfl
                            go_wp2
                            go_roundw
                            case rel => exact ⟨x + 1, by omega, by go_num, hB6'⟩
                            case measure => simp [intOf]; omega
                      · --G5
                        obtain ⟨wb, rfl⟩ : ∃ wb, wb = wr := ⟨_, rfl⟩
                        have hE0 := first_zero HREP.out HUP.out (fun q hq => (HBND.out q hq).2) hpos
                        have n0 : nth (Lf E') 0 = ent E'[0] := nth_Lf E' 0 hpos
                        have hb0 : (nth (Lf E') 0).b = 0 := by rw [n0]; show lb E'[0].2 = 0; rw [hE0, lb0]
                        have hn0 : (nth (Lf E') 0).n = 1 := by rw [n0]; show ln E'[0].2 = 1; rw [hE0, ln0]
                        obtain ⟨g0, g1, g2⟩ := (HRW.out.later hB5 hgr6) 0 hpos
                        simp only [Nat.zero_mul, Nat.zero_add] at g0 g1 g2
                        rw [hb0] at g1
                        rw [hn0] at g2
                        have l0 := (hB5.cell (p := ⟨go, O.length * 2, none⟩) hgo6).trans HLST.out.1
                        have l1 := (hB5.cell (p := ⟨go, O.length * 2 + 1, none⟩) hgo6).trans HLST.out.2
                        have hwant := fun wx hrow => want_any gr cr 0 E' topic start true wx (by omega) hpos hrow
                        unfold cfgE at l1 hwant
                        rw [hb0, hn0] at l1 hwant
                        generalize lftE E' 0 = pl at l1 hwant
                        generalize rgtE E' 0 = pr at l1 hwant
                        unfold cfg at l1 hwant
                        have HQ1 : Hid (∀ wx, Row wx gr E'.length (nth (Lf E')) → Calls Ybaz.prog 11 #[.slice (some ⟨gr, 0, none⟩) E'.length cr, .int .i64 0, .string topic, .int .u64 start, .bool true] wx fun e w' => e = .returned (.agg #[.string topic, .string pl.a, .int .u64 pl.b, .int .u8 pl.n, .int .u64 0, .int .u8 1, .string pr.a, .int .u64 pr.b, .int .u8 pr.n, .int .u64 start, .bool true]) ∧ Below wx.heap.size wx w') := hwant
                        clear hwant hE0 n0 hb0 hn0
                        generalize (nth (Lf E') 0).a = nA at g0 l0
                        have hgrb : gr < wb.heap.size := by have := hB5.size; omega
                        have hgob : go < wb.heap.size := by have := hB5.size; omega
                        have i1 : (0 : Int) < (E'.length : Int) := by omega
                        have hta : ∀ (v : Value) (wx : World), (Instr.typeAssert (.iface 41 v) 37 41 true).run Ybaz.prog wx = .ok (.tuple #[v, .bool true]) wx := tass
                        have d1 : decide ((O.length : Int) + 1 < 1) = false := by simp; omega
                        have q3 : (0 : Int) ≤ (O.length : Int) := Int.natCast_nonneg _
                        have q4 : (O.length : Int) < (O.length : Int) + 1 := Int.lt_add_one_of_le (Int.le_refl _)
                        have q5 : O.length ≤ co := by omega
                        have KS : Hid (∀ wx, Below wb.heap.size wb wx → wx.cell? ⟨gr, 1, none⟩ = some (.int .u64 0) ∧ wx.cell? ⟨gr, 2, none⟩ = some (.int .u8 1)) := fun wx hb => ⟨(hb.cell (p := ⟨gr, 1, none⟩) hgrb).trans g1, (hb.cell (p := ⟨gr, 2, none⟩) hgrb).trans g2⟩
                        go_wp2_with fail
                        go_region_held3 (fun w' => w'.cell? ⟨gr, 1, none⟩ = some (.int .u64 0) ∧ w'.cell? ⟨gr, 2, none⟩ = some (.int .u8 1))
                          (first | exact KS.out _ hb8 | exact KS.out _ (Below.refl _ _).drew | exact ⟨g1, g2⟩)
                          ((go_at_call 8; refine (labelOf_0 _).mono ?_; rintro e w8 ⟨rfl, hb8'⟩; have hb8 : Below wb.heap.size wb w8 := (Below.refl _ wb).drew.trans hb8'))
                        all_goals (
                          have y0 := (hb8.cell (p := ⟨gr, 0, none⟩) hgrb).trans g0
                          have y1 := (hb8.cell (p := ⟨go, O.length * 2, none⟩) hgob).trans l0
                          have y2 := (hb8.cell (p := ⟨go, O.length * 2 + 1, none⟩) hgob).trans l1
                          have HB8 : Hid (Below w6.heap.size w6 w8) := hB5.trans (hb8.mono hB5.size)
                          go_wp2_with fail
                          have y0a : ∀ ob, (w8.alloc ob).cell? ⟨gr, 0, none⟩ = some (.string nA) := fun ob => by rw [World.cell?_alloc_past _ _ _ (by show gr < _; have := hb8.size; omega)]; exact y0
                          go_quiet (fail)
                          have x1 : ((w8.alloc (.cells #[.string nA, .iface 41 (.agg #[.string topic, .string pl.a, .int .u64 pl.b, .int .u8 pl.n, .int .u64 0, .int .u8 1, .string pr.a, .int .u64 pr.b, .int .u8 pr.n, .int .u64 start, .bool true])] 39)).drewN nq).cell? ⟨w8.heap.size, 1, none⟩ = some (.iface 41 (.agg #[.string topic, .string pl.a, .int .u64 pl.b, .int .u8 pl.n, .int .u64 0, .int .u8 1, .string pr.a, .int .u64 pr.b, .int .u8 pr.n, .int .u64 start, .bool true])) := by
                            show (w8.alloc _).cell? _ = _
                            rw [World.cell?_alloc_at _ _ _ _ rfl]; rfl
                          have HB9 : Hid (Below w6.heap.size w6 ((w8.alloc (.cells #[.string nA, .iface 41 (.agg #[.string topic, .string pl.a, .int .u64 pl.b, .int .u8 pl.n, .int .u64 0, .int .u8 1, .string pr.a, .int .u64 pr.b, .int .u8 pr.n, .int .u64 start, .bool true])] 39)).drewN nq)) := below_drewN (HB8.out.alloc HB8.out.size _) _
                          clear y0a
                          generalize (w8.alloc (.cells #[.string nA, .iface 41 (.agg #[.string topic, .string pl.a, .int .u64 pl.b, .int .u8 pl.n, .int .u64 0, .int .u8 1, .string pr.a, .int .u64 pr.b, .int .u8 pr.n, .int .u64 start, .bool true])] 39)).drewN nq = w9 at x1 HB9 ⊢
                          go_wp2_with fail
                          have KB : Hid (∀ w' : World, Below (w9.heap.size + 1) (w9.alloc (.cells #[.string topic, .string pl.a, .int .u64 pl.b, .int .u8 pl.n, .int .u64 0, .int .u8 1, .string pr.a, .int .u64 pr.b, .int .u8 pr.n, .int .u64 start, .bool true] 41)) w' → w'.cell? ⟨w9.heap.size, 0, none⟩ = some (.string topic) ∧ w'.cell? ⟨w9.heap.size, 1, none⟩ = some (.string pl.a) ∧ w'.cell? ⟨w9.heap.size, 2, none⟩ = some (.int .u64 pl.b) ∧ w'.cell? ⟨w9.heap.size, 3, none⟩ = some (.int .u8 pl.n) ∧ w'.cell? ⟨w9.heap.size, 4, none⟩ = some (.int .u64 0) ∧ w'.cell? ⟨w9.heap.size, 5, none⟩ = some (.int .u8 1) ∧ w'.cell? ⟨w9.heap.size, 6, none⟩ = some (.string pr.a) ∧ w'.cell? ⟨w9.heap.size, 7, none⟩ = some (.int .u64 pr.b) ∧ w'.cell? ⟨w9.heap.size, 8, none⟩ = some (.int .u8 pr.n) ∧ w'.cell? ⟨w9.heap.size, 9, none⟩ = some (.int .u64 start) ∧ w'.cell? ⟨w9.heap.size, 10, none⟩ = some (.bool true)) := fun w' hb =>
                            cfg_facts (l := pl) (r := pr) ((hb.block _ (by omega)).trans (heap_alloc_new w9 (.cells (cfg topic pl 0 1 pr start true) 41 (0, 0))))
                          have hbD : Below w9.heap.size w9 (w9.alloc (.cells #[.string topic, .string pl.a, .int .u64 pl.b, .int .u8 pl.n, .int .u64 0, .int .u8 1, .string pr.a, .int .u64 pr.b, .int .u8 pr.n, .int .u64 start, .bool true] 41)).drew := ((Below.refl _ _).alloc (Nat.le_refl _) _).drew
                          have hrD : Hid (Row (w9.alloc (.cells #[.string topic, .string pl.a, .int .u64 pl.b, .int .u8 pl.n, .int .u64 0, .int .u8 1, .string pr.a, .int .u64 pr.b, .int .u8 pr.n, .int .u64 start, .bool true] 41)).drew gr E'.length (nth (Lf E'))) := (HRW.out.later HB9.out hgr6).later hbD (by have := HB9.out.size; omega)
                          go_region_held3 (fun w' => w'.cell? ⟨w9.heap.size, 0, none⟩ = some (.string topic) ∧ w'.cell? ⟨w9.heap.size, 1, none⟩ = some (.string pl.a) ∧ w'.cell? ⟨w9.heap.size, 2, none⟩ = some (.int .u64 pl.b) ∧ w'.cell? ⟨w9.heap.size, 3, none⟩ = some (.int .u8 pl.n) ∧ w'.cell? ⟨w9.heap.size, 4, none⟩ = some (.int .u64 0) ∧ w'.cell? ⟨w9.heap.size, 5, none⟩ = some (.int .u8 1) ∧ w'.cell? ⟨w9.heap.size, 6, none⟩ = some (.string pr.a) ∧ w'.cell? ⟨w9.heap.size, 7, none⟩ = some (.int .u64 pr.b) ∧ w'.cell? ⟨w9.heap.size, 8, none⟩ = some (.int .u8 pr.n) ∧ w'.cell? ⟨w9.heap.size, 9, none⟩ = some (.int .u64 start) ∧ w'.cell? ⟨w9.heap.size, 10, none⟩ = some (.bool true))
                            (first | exact KB.out _ hb10 | exact KB.out _ (Below.refl _ _).drew)
                            ((go_at_call 11; refine (HQ1.out _ hrD.out).mono ?_; rintro e w10 ⟨rfl, hb10'⟩; have hb10 : Below (w9.heap.size + 1) (w9.alloc (.cells #[.string topic, .string pl.a, .int .u64 pl.b, .int .u8 pl.n, .int .u64 0, .int .u8 1, .string pr.a, .int .u64 pr.b, .int .u8 pr.n, .int .u64 start, .bool true] 41)) w10 := (Below.refl _ _).drew.trans (hb10'.mono (by simp))))
                          all_goals (
                            have HB10 : Hid (Below w6.heap.size w6 w10) := (HB9.out.alloc HB9.out.size _).trans (hb10.mono (by have := HB9.out.size; omega))
                            clear hrD hbD KB hb10 hb10' x1
                            clear l0 l1 g0 g1 g2 y0 y1 y2 HQ1 KS
                            go_wp2_with fail
                            go_loopw [33, 34, 35, 36, 37, 38, 206] (fun _ _ _ _ _ _ i wx => ∃ k : Nat, k ≤ O.length ∧ i = .int .i64 k ∧ Hid (Below w6.heap.size w6 wx)) (fun _ _ _ _ _ _ i _ => O.length - (intOf i).toNat)
                            case atStart => exact ⟨0, Nat.zero_le _, rfl, HB10⟩
                            case round =>
                              obtain ⟨k7, hk7, rfl, HB7⟩ := hrel
                              by_cases hkr7 : k7 < O.length
                              · --F7
                                obtain ⟨o0, o1⟩ := HOUT.out k7 hkr7
                                have hi := HOI.out _ (List.getElem_mem hkr7)
                                generalize O[k7] = ip at o0 o1 hi
                                have o0' := (HB7.out.cell (p := ⟨go, k7 * 2, none⟩) hgo6).trans o0
                                have o1' := (HB7.out.cell (p := ⟨go, k7 * 2 + 1, none⟩) hgo6).trans o1
                                clear o0 o1
                                obtain ⟨wk, rfl⟩ : ∃ wk, wk = wr := ⟨_, rfl⟩
                                have nI : nth (Lf E') ip = ent E'[ip] := nth_Lf E' ip hi
                                have hy24 : E'[ip].2 < 24 := (HBND.out _ (List.getElem_mem _)).2
                                have hbI : (nth (Lf E') ip).b = lb E'[ip].2 := by rw [nI]; rfl
                                have hnI : (nth (Lf E') ip).n = ln E'[ip].2 := by rw [nI]; rfl
                                have hwant := fun wx hrow => want_any gr cr ip E' topic start false wx (by omega) hi hrow
                                unfold cfgE at o1' hwant
                                rw [hbI, hnI] at o1' hwant
                                generalize lftE E' ip = pl at o1' hwant
                                generalize rgtE E' ip = pr at o1' hwant
                                have HDif : Hid (∀ jj (hjj : jj < E'.length), jj ≠ ip → E'[jj].2 ≠ E'[ip].2) := fun jj hjj hne e => hne (by
                                  have h1 : (E'.map (·.2))[jj]'(by simpa using hjj) = (E'.map (·.2))[ip]'(by simpa using hi) := by simpa using e
                                  exact (List.getElem_inj HUP.out.nodup2).1 h1)
                                have HSam : Hid (∀ jj (hjj : jj < E'.length), jj = ip → E'[jj].2 = E'[ip].2) := fun jj hjj e => by subst e; rfl
                                generalize E'[ip].2 = y at *
                                unfold cfg at o1' hwant
                                have HQ2 : Hid (∀ wx, Row wx gr E'.length (nth (Lf E')) → Calls Ybaz.prog 11 #[.slice (some ⟨gr, 0, none⟩) E'.length cr, .int .i64 ip, .string topic, .int .u64 start, .bool false] wx fun e w' => e = .returned (.agg #[.string topic, .string pl.a, .int .u64 pl.b, .int .u8 pl.n, .int .u64 (lb y), .int .u8 (ln y), .string pr.a, .int .u64 pr.b, .int .u8 pr.n, .int .u64 start, .bool false]) ∧ Below wx.heap.size wx w') := hwant
                                have HRI : Hid (∀ wx, Below w6.heap.size w6 wx → wx.cell? ⟨gr, ip * 3, none⟩ = some (.string (nth (Lf E') ip).a)) := fun wx hb => ((HRW.out.later hb hgr6) ip hi).1
                                clear hwant hbI hnI nI
                                generalize (nth (Lf E') ip).a = nI at *
                                have i7 : (k7 : Int) < (O.length : Int) := by omega
                                go_wp2_with fail
                                have hxb : ((wk.alloc (.cells #[.string nI, .iface 41 (.agg #[.string topic, .string pl.a, .int .u64 pl.b, .int .u8 pl.n, .int .u64 (lb y), .int .u8 (ln y), .string pr.a, .int .u64 pr.b, .int .u8 pr.n, .int .u64 start, .bool false])] 39)).alloc (.cells #[.string topic, .string pl.a, .int .u64 pl.b, .int .u8 pl.n, .int .u64 (lb y), .int .u8 (ln y), .string pr.a, .int .u64 pr.b, .int .u8 pr.n, .int .u64 start, .bool false] 41)).heap[wk.heap.size]? = some (.cells #[.string nI, .iface 41 (.agg #[.string topic, .string pl.a, .int .u64 pl.b, .int .u8 pl.n, .int .u64 (lb y), .int .u8 (ln y), .string pr.a, .int .u64 pr.b, .int .u8 pr.n, .int .u64 start, .bool false])] 39 (0, 0)) := (Below.heap_alloc _ _ _ (by simp)).trans (heap_alloc_new _ _)
                                have hxc : ((wk.alloc (.cells #[.string nI, .iface 41 (.agg #[.string topic, .string pl.a, .int .u64 pl.b, .int .u8 pl.n, .int .u64 (lb y), .int .u8 (ln y), .string pr.a, .int .u64 pr.b, .int .u8 pr.n, .int .u64 start, .bool false])] 39)).alloc (.cells #[.string topic, .string pl.a, .int .u64 pl.b, .int .u8 pl.n, .int .u64 (lb y), .int .u8 (ln y), .string pr.a, .int .u64 pr.b, .int .u8 pr.n, .int .u64 start, .bool false] 41)).heap[wk.heap.size + 1]? = some (.cells (cfg topic pl (lb y) (ln y) pr start false) 41 (0, 0)) := by
                                  have := heap_alloc_new (wk.alloc (.cells #[.string nI, .iface 41 (.agg #[.string topic, .string pl.a, .int .u64 pl.b, .int .u8 pl.n, .int .u64 (lb y), .int .u8 (ln y), .string pr.a, .int .u64 pr.b, .int .u8 pr.n, .int .u64 start, .bool false])] 39)) (.cells #[.string topic, .string pl.a, .int .u64 pl.b, .int .u8 pl.n, .int .u64 (lb y), .int .u8 (ln y), .string pr.a, .int .u64 pr.b, .int .u8 pr.n, .int .u64 start, .bool false] 41)
                                  rwa [World.size_alloc] at this
                                have HBx : Hid (Below w6.heap.size w6 ((wk.alloc (.cells #[.string nI, .iface 41 (.agg #[.string topic, .string pl.a, .int .u64 pl.b, .int .u8 pl.n, .int .u64 (lb y), .int .u8 (ln y), .string pr.a, .int .u64 pr.b, .int .u8 pr.n, .int .u64 start, .bool false])] 39)).alloc (.cells #[.string topic, .string pl.a, .int .u64 pl.b, .int .u8 pl.n, .int .u64 (lb y), .int .u8 (ln y), .string pr.a, .int .u64 pr.b, .int .u8 pr.n, .int .u64 start, .bool false] 41))) := (HB7.out.alloc HB7.out.size _).alloc (by have := HB7.out.size; simp; omega) _
                                have hsx : ((wk.alloc (.cells #[.string nI, .iface 41 (.agg #[.string topic, .string pl.a, .int .u64 pl.b, .int .u8 pl.n, .int .u64 (lb y), .int .u8 (ln y), .string pr.a, .int .u64 pr.b, .int .u8 pr.n, .int .u64 start, .bool false])] 39)).alloc (.cells #[.string topic, .string pl.a, .int .u64 pl.b, .int .u8 pl.n, .int .u64 (lb y), .int .u8 (ln y), .string pr.a, .int .u64 pr.b, .int .u8 pr.n, .int .u64 start, .bool false] 41)).heap.size = wk.heap.size + 2 := by simp
                                have hwk6 := HB7.out.size
                                generalize ((wk.alloc (.cells #[.string nI, .iface 41 (.agg #[.string topic, .string pl.a, .int .u64 pl.b, .int .u8 pl.n, .int .u64 (lb y), .int .u8 (ln y), .string pr.a, .int .u64 pr.b, .int .u8 pr.n, .int .u64 start, .bool false])] 39)).alloc (.cells #[.string topic, .string pl.a, .int .u64 pl.b, .int .u8 pl.n, .int .u64 (lb y), .int .u8 (ln y), .string pr.a, .int .u64 pr.b, .int .u8 pr.n, .int .u64 start, .bool false] 41)) = wx0 at hxb hxc HBx hsx ⊢
                                clear o0' o1'
                                go_loopw [36, 37, 38, 220] (fun ps _ _ jv wx => ∃ jj : Nat, jj ≤ E'.length ∧ jv = .int .i64 jj ∧ ps = .int .i64 (if ip < jj then (ip : Int) else -1) ∧ Hid (Below wx0.heap.size wx0 wx)) (fun _ _ _ jv _ => E'.length - (intOf jv).toNat)
                                case atStart => exact ⟨0, Nat.zero_le _, rfl, by simp, Below.refl _ _⟩
                                case round =>
                                  obtain ⟨jj, hjj, rfl, rfl, HB8'⟩ := hrel
                                  have hsw := HB8'.out.size
                                  have HBw : Hid (Below w6.heap.size w6 wr) := HBx.out.trans (HB8'.out.mono (by omega))
                                  have hyb : wr.heap[wk.heap.size + 1]? = some (.cells (cfg topic pl (lb y) (ln y) pr start false) 41 (0, 0)) := (HB8'.out.block _ (by omega)).trans hxc
                                  by_cases hjr : jj < E'.length
                                  · obtain ⟨a0, a1, a2⟩ := (HRW.out.later HBw.out hgr6) jj hjr
                                    rw [nth_Lf E' jj hjr] at a0 a1 a2
                                    have hz24 : E'[jj].2 < 24 := (HBND.out _ (List.getElem_mem _)).2
                                    have hdif := HDif.out jj hjr
                                    have hsam := HSam.out jj hjr
                                    have hent : ent E'[jj] = ⟨(ent E'[jj]).a, lb E'[jj].2, ln E'[jj].2⟩ := rfl
                                    rw [hent] at a0 a1 a2
                                    generalize (ent E'[jj]).a = ea at a0 a1 a2
                                    generalize E'[jj].2 = z at *
                                    simp only at a0 a1 a2
                                    clear hent
                                    have i8 : (jj : Int) < (E'.length : Int) := by omega
                                    have c4a : ∀ ob, (wr.alloc ob).cell? ⟨wk.heap.size + 1, 4, none⟩ = some (.int .u64 (lb y)) := fun ob => by
                                      rw [World.cell?_alloc_past _ _ _ (by show wk.heap.size + 1 < _; omega)]; exact (cell_of hyb 4).trans rfl
                                    have c5a : ∀ ob, (wr.alloc ob).cell? ⟨wk.heap.size + 1, 5, none⟩ = some (.int .u8 (ln y)) := fun ob => by
                                      rw [World.cell?_alloc_past _ _ _ (by show wk.heap.size + 1 < _; omega)]; exact (cell_of hyb 5).trans rfl
                                    have HBa : Hid (∀ ob, Below wx0.heap.size wx0 (wr.alloc ob)) := fun ob => HB8'.out.alloc hsw ob
                                    by_cases hji : jj = ip
                                    · have hzy := hsam hji
                                      subst hzy
                                      subst hji
                                      have e1 : ¬ jj < jj := by omega
                                      simp only [e1, if_false]
                                      clear hdif hsam
                                      go_wp2
                                      go_roundw
                                      case rel =>
                                        refine ⟨jj + 1, by omega, by go_num, ?_, HBa.out _⟩
                                        rw [if_pos (by omega)]
                                      case measure => simp [intOf]; omega
                                    · have hzy := hdif hji
                                      have hlne : ¬ (lb z = lb y ∧ ln z = ln y) := fun e => hzy (lbl_inj z hz24 y hy24 (Prod.ext e.1 e.2))
                                      have hcmp : (lb z ≠ lb y) ∨ (ln z ≠ ln y) := by
                                        by_cases e : lb z = lb y
                                        · exact .inr (fun e2 => hlne ⟨e, e2⟩)
                                        · exact .inl e
                                      have hps : (if ip < jj + 1 then (ip : Int) else -1) = if ip < jj then (ip : Int) else -1 := by
                                        by_cases e : ip < jj
                                        · rw [if_pos e, if_pos (by omega)]
                                        · rw [if_neg e, if_neg (by omega)]
                                      have Hps : Hid ((if ip < jj + 1 then (ip : Int) else -1) = if ip < jj then (ip : Int) else -1) := hps
                                      clear hlne hdif hsam hps
                                      rcases hcmp with hc | hc
                                      all_goals (
                                        go_wp2
                                        go_roundw
                                        case rel =>
                                          refine ⟨jj + 1, by omega, by go_num, ?_, HBa.out _⟩
                                          rw [Hps.out]
                                        case measure => simp [intOf]; omega)
                                  · obtain rfl : E'.length = jj := by omega
                                    have e1 : ip < E'.length := hi
                                    simp only [e1, if_true]
                                    have hza : wr.heap[wk.heap.size]? = some (.cells #[.string nI, .iface 41 (.agg #[.string topic, .string pl.a, .int .u64 pl.b, .int .u8 pl.n, .int .u64 (lb y), .int .u8 (ln y), .string pr.a, .int .u64 pr.b, .int .u8 pr.n, .int .u64 start, .bool false])] 39 (0, 0)) := (HB8'.out.block _ (by omega)).trans hxb
                                    have t0 : wr.cell? ⟨wk.heap.size, 0, none⟩ = some (.string nI) := (cell_of hza 0).trans rfl
                                    have r0 := HRI.out wr HBw.out
                                    have hgrw : gr < wr.heap.size := by have := HBw.out.size; omega
                                    have KB2 : Hid (∀ w' : World, Below wr.heap.size wr w' → (w'.cell? ⟨wk.heap.size, 0, none⟩ = some (.string nI) ∧ w'.cell? ⟨gr, ip * 3, none⟩ = some (.string nI)) ∧ w'.cell? ⟨wk.heap.size + 1, 0, none⟩ = some (.string topic) ∧ w'.cell? ⟨wk.heap.size + 1, 1, none⟩ = some (.string pl.a) ∧ w'.cell? ⟨wk.heap.size + 1, 2, none⟩ = some (.int .u64 pl.b) ∧ w'.cell? ⟨wk.heap.size + 1, 3, none⟩ = some (.int .u8 pl.n) ∧ w'.cell? ⟨wk.heap.size + 1, 4, none⟩ = some (.int .u64 (lb y)) ∧ w'.cell? ⟨wk.heap.size + 1, 5, none⟩ = some (.int .u8 (ln y)) ∧ w'.cell? ⟨wk.heap.size + 1, 6, none⟩ = some (.string pr.a) ∧ w'.cell? ⟨wk.heap.size + 1, 7, none⟩ = some (.int .u64 pr.b) ∧ w'.cell? ⟨wk.heap.size + 1, 8, none⟩ = some (.int .u8 pr.n) ∧ w'.cell? ⟨wk.heap.size + 1, 9, none⟩ = some (.int .u64 start) ∧ w'.cell? ⟨wk.heap.size + 1, 10, none⟩ = some (.bool false)) := fun w' hb =>
                                      ⟨⟨(hb.cell (p := ⟨wk.heap.size, 0, none⟩) (by show wk.heap.size < _; omega)).trans t0, (hb.cell (p := ⟨gr, ip * 3, none⟩) hgrw).trans r0⟩, cfg_facts (l := pl) (r := pr) ((hb.block _ (by omega)).trans hyb)⟩
                                    have hrD : Hid (Row wr.drew gr E'.length (nth (Lf E'))) := (HRW.out.later HBw.out hgr6).later (Below.refl _ _).drew hgrw
                                    have hd : decide ((ip : Int) < 0) = false := by simp
                                    have i9 : (ip : Int) < (E'.length : Int) := by omega
                                    have i10 : (0 : Int) ≤ (ip : Int) := Int.natCast_nonneg _
                                    go_wp2_with fail
                                    go_region_held3 (fun w' => (w'.cell? ⟨wk.heap.size, 0, none⟩ = some (.string nI) ∧ w'.cell? ⟨gr, ip * 3, none⟩ = some (.string nI)) ∧ w'.cell? ⟨wk.heap.size + 1, 0, none⟩ = some (.string topic) ∧ w'.cell? ⟨wk.heap.size + 1, 1, none⟩ = some (.string pl.a) ∧ w'.cell? ⟨wk.heap.size + 1, 2, none⟩ = some (.int .u64 pl.b) ∧ w'.cell? ⟨wk.heap.size + 1, 3, none⟩ = some (.int .u8 pl.n) ∧ w'.cell? ⟨wk.heap.size + 1, 4, none⟩ = some (.int .u64 (lb y)) ∧ w'.cell? ⟨wk.heap.size + 1, 5, none⟩ = some (.int .u8 (ln y)) ∧ w'.cell? ⟨wk.heap.size + 1, 6, none⟩ = some (.string pr.a) ∧ w'.cell? ⟨wk.heap.size + 1, 7, none⟩ = some (.int .u64 pr.b) ∧ w'.cell? ⟨wk.heap.size + 1, 8, none⟩ = some (.int .u8 pr.n) ∧ w'.cell? ⟨wk.heap.size + 1, 9, none⟩ = some (.int .u64 start) ∧ w'.cell? ⟨wk.heap.size + 1, 10, none⟩ = some (.bool false))
                                      (first | exact KB2.out _ hb12 | exact KB2.out _ (Below.refl _ _).drew | exact KB2.out _ (Below.refl _ _))
                                      ((go_at_call 11; refine (HQ2.out _ hrD.out).mono ?_; rintro e w12 ⟨rfl, hb12'⟩; have hb12 : Below wr.heap.size wr w12 := (Below.refl _ _).drew.trans (hb12'.mono (by simp))))
                                    all_goals (
                                      have HB12 : Hid (Below w6.heap.size w6 w12) := HBw.out.trans (hb12.mono HBw.out.size)
                                      go_wp2
                                      go_roundw
                                      case rel => exact ⟨k7 + 1, by omega, by go_num, HB12.out⟩
                                      case measure => simp [intOf]; omega)
                              · --G7
                                go_wp2
                                go_ret
                                exact ⟨rfl, HB6.out.trans (HB7.out.mono HB6.out.size)⟩))
end Go.Proofs.YbulkclxkGreat.rep
