import Derived.Test.YbulkclxkGreatClo
namespace Go.Proofs.YbulkclxkGreat.rep
open Go.ChangeShapes Go.WideShapes Go.ChangeAt Go.RowKit
open lab ring maps sup put hold order del srt read
set_option linter.unusedVariables false

/-- What relabel leaves: the same names, under just l(0) .. l(m-1). -/
structure Reld (E E' : List (Nat × Nat)) : Prop where
  addr : (E'.map (·.1)).Perm (E.map (·.1))
  lab : (E'.map (·.2)).Perm (List.range E.length)

theorem Ros.keep {w w' : World} {B rb lb n : Nat} {L : List Pr} {G : ByteArray → List (Int × Int)} {t0 t1 st : Int} {v : Value} {f : ByteArray → Option Value} (h : Ros w B rb lb L n G t0 t1 st v f)
    (hsz : w.heap.size ≤ w'.heap.size) (hk : ∀ j, j < w.heap.size → (j = rb ∨ j = lb ∨ Own v f j) → w'.heap[j]? = w.heap[j]?) : Ros w' B rb lb L n G t0 t1 st v f :=
  { hB := Nat.le_trans h.hB hsz, hrb := h.hrb, hlb := h.hlb, own := ownsRow_block h.own (fun q hq => hk q (h.own.lt q hq).2 (.inr (.inr (.inl hq)))),
    blk := (hk rb (Nat.lt_of_lt_of_le h.hrb h.hB) (.inl rfl)).trans h.blk, map := h.map.of_block (hk lb h.map.lt (.inr (.inl rfl))), keys := h.keys,
    rows := fun ad => ownsRow_block (h.rows ad) (fun q hq => hk q ((h.rows ad).lt q hq).2 (.inr (.inr (.inr ⟨ad, hq⟩)))), sepv := h.sepv, sep := h.sep }
theorem Step.then_below {rb lb : Nat} {w wc wn : World} {v v' : Value} {f f' : ByteArray → Option Value} (h : Step rb lb w v f wc v' f') (hb : Below w.heap.size wc wn) : Step rb lb w v f wn v' f' :=
  ⟨⟨hb.os.trans h.turned.os, hb.tape.trans h.turned.tape, hb.output.trans h.turned.output, Nat.le_trans h.turned.size hb.size, fun i hi hn => (hb.block i hi).trans (h.turned.block i hi hn)⟩, h.fresh⟩

set_option maxRecDepth 100000 in
set_option maxHeartbeats 4000000 in
theorem relabel_bk {w : World} {B rb kb : Nat} {E : List (Nat × Nat)} {g : Nat → List Nat} {t0 t1 st : Int} {v : Value} {f : ByteArray → Option Value} (h : Bk w B rb kb E g t0 t1 st v f)
    (hpos : 0 < E.length) (h12 : E.length ≤ 12) (hname : ∀ q ∈ E, 0 < q.1) (hdis : (E.map (·.1)).Nodup) :
    Calls Ybaz.prog 43 #[.pointer (some ⟨rb, 0, none⟩)] w fun e w' => ∃ mv Mv E' g' v' f', e = .returned mv ∧ Bk w' B rb kb E' g' t0 t1 st v' f' ∧ Step rb kb w v f w' v' f' ∧ Reld E E' ∧
      w'.ownsRow w.heap.size 31 3 mv Mv.length (flat (Lf Mv)) ∧ (∀ j, mv.ownBlock = some j → ¬ Own v' f' j) ∧ (∀ q ∈ Mv, q.2 < E.length) ∧ Mv.length ≤ E.length := by
  obtain ⟨gr, c, rfl, hBg, hg⟩ := h.ros.own.form (by rw [Lf_length]; exact hpos)
  rw [Lf_length] at h ⊢
  have hro := h.ros
  generalize hm0 : E.length = m at *
  have hm : Hid (E.length = m) := hm0
  clear hm0
  have HB : Hid (Bk w B rb kb E g t0 t1 st (.slice (some ⟨gr, 0, none⟩) m c) f) := h
  have h0 : w.cell? ⟨rb, 0, none⟩ = some (.slice (some ⟨gr, 0, none⟩) m c) := by simp [World.cell?, hro.blk]
  have hrow : Row w gr m (nth (Lf E)) := by
    have := row_of (L := Lf E) (B := B) (c := c) (w := w) (g := gr) (by rw [Lf_length, hm.out]; have := hro.own; rwa [Lf_length, hm.out] at this)
    rwa [Lf_length, hm.out] at this
  have HP : Hid (Row w gr m (nth (Lf E))) := hrow
  have hrb : rb < w.heap.size := World.block_lt_of_cell? _ _ h0
  have hkb : kb < w.heap.size := h.ros.map.lt
  have h0a : ∀ o, (w.alloc o).cell? ⟨rb, 0, none⟩ = some (.slice (some ⟨gr, 0, none⟩) m c) := fun o => by rw [World.cell?_alloc_past _ _ _ hrb]; exact h0
  have HBd : Hid (∀ q ∈ E, q.1 < 6 ∧ q.2 < 24) := h.con.bound
  have i64 : IntKind.u64.wrap (m : Int) = (m : Int) := by rw [IntKind.wrap_u64]; omega
  obtain ⟨i0, hi, hz0, hz1, hz2⟩ := info_parts info4
  obtain ⟨j0, hj, hjz0, hjz1, hjz2⟩ := info_parts info3
  obtain ⟨l0, hl0, hlz0, hlz1, hlz2⟩ := info_parts info31
  have HNm : Hid (∀ q ∈ E, 0 < q.1) := hname
  have HDs : Hid (E.map (·.1)).Nodup := hdis
  clear hrow hname hdis hro h
  go_enter Ybaz.func43, Ybaz.ntmps43
  go_wp2_with (first
    | (at_make; refine wpList_make_full _ rfl _ _ 104 rfl (w.heap.size + 1) 4 i0 (.bool false) 1 (by kernel_rfl) hi hz0 hz1 _ _ _ _ m rfl rfl (by omega) (by omega) (by rw [hz2]; omega) (by unfold maxLen; omega) (by simp) ?_; intro w0 hown0 hgrow0
       have hB0 : Below w.heap.size w w0 := ((Below.refl _ w).alloc (Nat.le_refl _) _).grown hgrow0 (by simp) (fun k hk => by cases hk)
       have b0 : w0.cell? ⟨w.heap.size, 0, none⟩ = some (.pointer (some ⟨rb, 0, none⟩)) := hgrow0.cell (by rw [World.cell?_alloc_at _ _ _ _ rfl]; rfl) (by simp)
       have b1 : w0.cell? ⟨rb, 0, none⟩ = some (.slice (some ⟨gr, 0, none⟩) m c) := (hB0.cell (p := ⟨rb, 0, none⟩) hrb).trans h0))
  have hown0' : w0.ownsRow (w.heap.size + 1) 4 1 (.slice (some ⟨w.heap.size + 1, 0, none⟩) m m) m (helds E m 0) := by
    rw [helds_zero]
    have := hown0
    rw [show (madeCells (Value.bool false).cells (m * 1)).toList = List.replicate m (.bool false) by rw [Nat.mul_one]; exact toList_madeCells_one _ _] at this
    simpa using this
  have HO0 : Hid (w0.ownsRow (w.heap.size + 1) 4 1 (.slice (some ⟨w.heap.size + 1, 0, none⟩) m m) m (helds E m 0)) := hown0'
  have hsz0 : w.heap.size + 2 ≤ w0.heap.size := by have := (hown0'.lt (w.heap.size + 1) rfl).2; omega
  clear hown0 hown0'
  go_loopw [5, 26] (fun o i wr => ∃ k : Nat, k ≤ m ∧ i = .int .i64 k ∧ Hid (wr.ownsRow (w.heap.size + 1) 4 1 (.slice (some ⟨w.heap.size + 1, 0, none⟩) m m) m (helds E m k)) ∧ Hid (wr.ownsRow (w.heap.size + 2) 3 1 o (outs m E k).length (ints (outs m E k))) ∧ Below w.heap.size w wr ∧ wr.cell? ⟨w.heap.size, 0, none⟩ = some (.pointer (some ⟨rb, 0, none⟩)) ∧ w.heap.size + 2 ≤ wr.heap.size) (fun _ i _ => m - (intOf i).toNat)
  case atStart => exact ⟨0, Nat.zero_le _, rfl, HO0, ⟨rfl, .inl ⟨rfl, rfl⟩⟩, hB0, b0, hsz0⟩
  case round =>
    obtain ⟨k, hk, rfl, hHe, hOu, hB, hbx, hsz⟩ := hrel
    by_cases hkr : k < m
    · have hkE : k < E.length := by rw [hm.out]; exact hkr
      obtain ⟨a0, a1, a2⟩ := (HP.out.later hB hg) k hkr
      rw [nth_Lf E k hkE] at a0 a1 a2
      have i1 : (k : Int) < (m : Int) := by omega
      have hx24 : E[k].2 < 24 := (HBd.out _ (List.getElem_mem _)).2
      have HU : Hid (∀ wx, Calls Ybaz.prog 60 #[.agg #[.int .u64 (ent E[k]).b, .int .u8 (ent E[k]).n]] wx fun e w' => e = .returned (.tuple #[.int .u64 (E[k].2 : Nat), .bool true]) ∧ Below wx.heap.size wx w') := fun wx => number_any E[k].2 (by omega) wx
      have HK : Hid ((E[k].2 < m → (helds E m k).set E[k].2 (.bool true) = helds E m (k + 1) ∧ outs m E (k + 1) = outs m E k) ∧ (m ≤ E[k].2 → helds E m k = helds E m (k + 1) ∧ outs m E (k + 1) = outs m E k ++ [k])) := ⟨fun h => ⟨helds_set hkE h, outs_succ_in hkE h⟩, fun h => ⟨helds_skip hkE h, outs_succ_out hkE h⟩⟩
      generalize ent E[k] = P at *
      generalize E[k].2 = x at *
      by_cases hxm : x < m
      · have i2 : (x : Int) < (m : Int) := by omega
        have HK1 := HK.out.1 hxm
        have HK2 : Hid ((helds E m k).set x (.bool true) = helds E m (k + 1) ∧ outs m E (k + 1) = outs m E k) := HK1
        clear HK HK1
        go_wp2_with (first
          | (go_at_call 60; refine (HU.out _).mono ?_; rintro e w2 ⟨rfl, hb2⟩
             have hB2' : Below wr.heap.size wr w2 := ((Below.refl _ wr).alloc (Nat.le_refl _) _).trans (hb2.mono (by simp))
             have hown2 : w2.ownsRow (w.heap.size + 1) 4 1 (.slice (some ⟨w.heap.size + 1, 0, none⟩) m m) m (helds E m k) := ownsRow_block hHe.out (fun q hq => hB2'.block q (hHe.out.lt q hq).2)
             have hout2 : w2.ownsRow (w.heap.size + 2) 3 1 u5 (outs m E k).length (ints (outs m E k)) := ownsRow_block hOu.out (fun q hq => hB2'.block q (hOu.out.lt q hq).2)
             have HO2 : Hid (w2.ownsRow (w.heap.size + 2) 3 1 u5 (outs m E k).length (ints (outs m E k))) := hout2
             have hB2 : Below w.heap.size w w2 := hB.trans (hB2'.mono hB.size)
             have d0 : w2.cell? ⟨w.heap.size + 1, x, none⟩ = some (.bool (hel E k x)) := (hown2.cellAt x (by omega)).trans (helds_at _ _ _ _ hxm)
             have d1 : w2.frozen? ⟨w.heap.size + 1, x, none⟩ = false := hown2.frozenAt x
             clear hout2))
        go_roundw
        case rel =>
          have hst := hown2.stored x (.bool true)
          refine ⟨k + 1, by omega, by go_num, ?_, ?_, hB2.setCell (by show w.heap.size ≤ w.heap.size + 1; omega) _, ?_, ?_⟩
          · rw [← HK2.out.1]; exact hst.1
          · rw [HK2.out.2]
            exact ownsRow_block HO2.out (fun q hq => Below.heap_setCell _ _ _ _ (by have := (HO2.out.lt q hq).1; show q ≠ w.heap.size + 1; omega))
          · exact hst.2.cell ((hB2'.cell (p := ⟨w.heap.size, 0, none⟩) (by show w.heap.size < _; omega)).trans hbx) (by simp)
          · have := hB2'.size; have : ((w2.setCell ⟨w.heap.size + 1, x, none⟩ (.bool true))).heap.size = w2.heap.size := by simp [World.setCell]
            omega
        case measure => simp [intOf]; omega
      · have i2 : ¬ (x : Int) < (m : Int) := by omega
        have HK1 := HK.out.2 (by omega)
        have HK2 : Hid (helds E m k = helds E m (k + 1) ∧ outs m E (k + 1) = outs m E k ++ [k]) := HK1
        clear HK HK1
        have hol : (outs m E k).length ≤ k := outs_le _ _ _
        go_wp2_with (first
          | (go_at_call 60; refine (HU.out _).mono ?_; rintro e w2 ⟨rfl, hb2⟩
             have hB2' : Below wr.heap.size wr w2 := ((Below.refl _ wr).alloc (Nat.le_refl _) _).trans (hb2.mono (by simp))
             have hout2 : w2.ownsRow (w.heap.size + 2) 3 1 u5 (outs m E k).length (ints (outs m E k)) := ownsRow_block hOu.out (fun q hq => hB2'.block q (hOu.out.lt q hq).2)
             have HO2 : Hid (w2.ownsRow (w.heap.size + 2) 3 1 u5 (outs m E k).length (ints (outs m E k))) := hout2
             have hsz2 : w.heap.size + 2 ≤ w2.heap.size := by have := hB2'.size; omega
             clear hout2)
          | (at_builtin; refine wpList_append_lies _ rfl (.tmp 46) (.tmp 48) 105 rfl (w.heap.size + 2) 3 j0 (.int .i64 0) 1 8 Ybaz.underlying105 hj hjz0 hjz1 hjz2 rfl (by decide) u5 (outs m E k).length (ints (outs m E k)) rfl (HO2.out.alloc _) ⟨w2.heap.size, 0, none⟩ 1 1 [.int .i64 k] rfl rfl (World.news_of_block (cs := #[.int .i64 k]) (t := 3) (fr := (0, 0)) (heap_alloc_new _ _)) (by simp [Value.oneCell']) (by omega) (by unfold maxLen; omega) (by omega) (by simp; omega) (w2.heap.size + 1) (by simp) ?_; intro g' c' w3 hown3 hgrow3 hat3 hlt3))
        go_roundw
        case rel =>
          have hn3 : ∀ j, u5.ownBlock = some j → w.heap.size + 2 ≤ j ∧ j < wr.heap.size := fun j hj => hOu.out.lt j hj
          have hk3 : ∀ j, j < wr.heap.size → u5.ownBlock ≠ some j → w3.heap[j]? = wr.heap[j]? := fun j hj hne => ((hgrow3.block j (by have := hB2'.size; simp; omega) (Ne.symm hne)).trans (Below.heap_alloc _ _ _ (by have := hB2'.size; omega))).trans (hB2'.block j hj)
          refine ⟨k + 1, by omega, by go_num, ?_, ?_, ?_, ?_, ?_⟩
          · rw [← HK2.out.1]
            exact ownsRow_block hHe.out (fun q hq => hk3 q (hHe.out.lt q hq).2 (fun e => by have := (hn3 q e).1; have hq' : w.heap.size + 1 = q := by simpa [Value.ownBlock] using hq
                                                                                            omega))
          · rw [HK2.out.2, ints_append, List.length_append]
            exact hown3
          · refine ⟨hgrow3.os.trans (hB2'.os.trans hB.os), hgrow3.tape.trans (hB2'.tape.trans hB.tape), hgrow3.output.trans (hB2'.output.trans hB.output), ?_, fun q hq => (hk3 q (by omega) (fun e => by have := (hn3 q e).1; omega)).trans (hB.block q hq)⟩
            have := hgrow3.size; simp at this; omega
          · exact (World.cell?_of_block (a := ⟨w.heap.size, 0, none⟩) (hk3 w.heap.size (by omega) (fun e => by have := (hn3 _ e).1; omega))).trans hbx
          · have := hgrow3.size; simp at this; omega
        case measure => simp [intOf]; omega
    · obtain rfl : m = k := by omega
      have HEl : outs m E m = outs E.length E E.length := by rw [hm.out]
      by_cases hemp : (outs m E m) = []
      · have hOu0 := hOu.out
        rw [hemp] at hOu0
        have hform : ∃ ao cc, u5 = .slice ao 0 cc := by
          obtain ⟨_, ⟨e, _⟩ | ⟨go, cc, _, e, _⟩⟩ := hOu0
          · exact ⟨none, 0, e⟩
          · exact ⟨_, cc, e⟩
        obtain ⟨ao, cc, rfl⟩ := hform
        clear hOu0
        go_wp2
        go_ret
        refine ⟨_, [], E, g, _, f, rfl, HB.out.later hB, Step.of_below hB, ⟨List.Perm.refl _, ?_⟩, ⟨rfl, .inl ⟨rfl, rfl⟩⟩, fun j hj => by simp [Value.ownBlock] at hj, by simp, by simp⟩
        have hall : ∀ x ∈ E.map (·.2), x < E.length := by
          intro x hx
          obtain ⟨q, hq, rfl⟩ := List.mem_map.1 hx
          obtain ⟨j, hj, rfl⟩ := List.getElem_of_mem hq
          rcases Nat.lt_or_ge E[j].2 E.length with e | e
          · exact e
          · have : j ∈ outs E.length E E.length := by
              simp only [outs, List.mem_filter, List.mem_range, decide_eq_true_eq]
              rw [getD_eq hj]; exact ⟨hj, e⟩
            rw [← HEl, hemp] at this
            simp at this
        exact full_perm _ _ (small_full HB.out.up.nodup2 hall (List.length_map _)) (List.length_map _)
      · obtain ⟨go, co, rfl, hgo1, hgo2⟩ := hOu.out.form (List.length_pos_iff.2 hemp)
        have hOl : (outs m E m).length ≤ m := outs_le _ _ _
        have hgrgo : gr ≠ go := by omega
        have HS61 : Hid (Calls Ybaz.prog 61 #[.slice (some ⟨go, 0, none⟩) (outs m E m).length co, .func (.func 62) #[] #[.pointer (some ⟨w.heap.size, 0, none⟩)]] wr fun e w' => e = .returned (.tuple #[]) ∧ ∃ Q, Q.Perm (outs m E m) ∧ w'.ownsRow (w.heap.size + 2) 3 1 (.slice (some ⟨go, 0, none⟩) (outs m E m).length co) (outs m E m).length (ints Q) ∧ wr.grownBy w' (some go)) := by
          refine sort61 _ co _ _ wr (by omega) _ (insertion91 (w.heap.size + 2) go co (outs m E m).length w.heap.size (outs m E m) wr rfl (by omega) hOu.out ?_)
          intro wx hgx p q hp hq
          obtain ⟨hp1, _⟩ := outs_mem (by rw [hm.out]; exact Nat.le_refl _) hp
          obtain ⟨hq1, _⟩ := outs_mem (by rw [hm.out]; exact Nat.le_refl _) hq
          have hcx : ∀ b o u, b < w.heap.size → wr.cell? ⟨b, o, none⟩ = some u → wx.cell? ⟨b, o, none⟩ = some u := fun b o u hb hu => hgx.cell hu (by simp; omega)
          refine closure62 w.heap.size rb gr c m p q E wx (fun r hr => (HBd.out r hr).2) hm.out (by omega) (by rw [← hm.out]; exact hp1) (by rw [← hm.out]; exact hq1) (hgx.cell hbx (by simp; omega)) (hcx _ _ _ hrb ((hB.cell (p := ⟨rb, 0, none⟩) hrb).trans h0)) ?_
          intro j hj
          obtain ⟨x0, x1, x2⟩ := (HP.out.later hB hg) j hj
          exact ⟨hcx _ _ _ hg x0, hcx _ _ _ hg x1, hcx _ _ _ hg x2⟩
        have hO1 : (((outs m E m).length : Int) == 0) = false := by have := List.length_pos_iff.2 hemp; simp; omega
        have HEq : Hid (outs m E m = outs E.length E E.length) := HEl
        have HPosO : Hid (0 < (outs m E m).length) := List.length_pos_iff.2 hemp
        clear HEl hemp
        go_wp2_with (first
          | (go_at_call 61; refine HS61.out.mono ?_; rintro e w3 ⟨rfl, Q, hQ, hown3, hgr3⟩
             have HQ : Hid (Q.Perm (outs m E m)) := hQ
             have HOq : Hid (w3.ownsRow (w.heap.size + 2) 3 1 (.slice (some ⟨go, 0, none⟩) (outs m E m).length co) (outs m E m).length (ints Q)) := hown3
             clear hQ hown3))
        have hsz3 := hgr3.size
        have hbx' := hbx
        have hk3 : ∀ j, j < wr.heap.size → j ≠ go → w3.heap[j]? = wr.heap[j]? := fun j hj hne => hgr3.block j hj (by simpa using hne)
        have hB3 : Below w.heap.size w w3 := ⟨hgr3.os.trans hB.os, hgr3.tape.trans hB.tape, hgr3.output.trans hB.output, by omega, fun j hj => (hk3 j (by omega) (by omega)).trans (hB.block j hj)⟩
        have HB3 : Hid (Bk w3 B rb kb E g t0 t1 st (.slice (some ⟨gr, 0, none⟩) m c) f) := HB.out.later hB3
        have hbx3 : w3.heap[w.heap.size]? = wr.heap[w.heap.size]? := hk3 _ (by omega) (by omega)
        have HOwn : Hid (∀ j, Own (.slice (some ⟨gr, 0, none⟩) m c) f j → j < w.heap.size) := fun j hj => (Ros.own_lt HB.out.ros hj).2
        have hcc : Hid ((outs m E m).length ≤ co) := by
          obtain ⟨_, ⟨h', _⟩ | ⟨g', c0, cur, h', _, _, hnc, hcm, _⟩⟩ := HOq.out
          · simp at h'
          · simp only [Value.slice.injEq, Option.some.injEq, Addr.mk.injEq, and_true, true_and] at h'
            obtain ⟨rfl, rfl⟩ := h'
            exact hnc
        have HHe3 : Hid (∀ x, x < m → w3.cell? ⟨w.heap.size + 1, x, none⟩ = some (.bool (hel E m x))) := fun x hx => (World.cell?_of_block (a := ⟨w.heap.size + 1, x, none⟩) (hk3 (w.heap.size + 1) (by omega) (by omega))).trans ((hHe.out.cellAt x (by omega)).trans (helds_at _ _ _ _ hx))
        have hQl : Hid (Q.length = (outs m E m).length) := HQ.out.length_eq
        have HQc : Hid (∀ i (hi : i < Q.length), w3.cell? ⟨go, i, none⟩ = some (.int .i64 (Q[i] : Nat))) := fun i hi => (HOq.out.cellAt i (by have := hQl.out; omega)).trans (ints_at Q i hi)
        clear hk3 HS61
        go_loopw [5, 10, 11, 12, 58] (fun o mv _ _ i wr => ∃ (x : Nat) (T : List (Nat × Nat)) (O : List Nat) (g' : Nat → List Nat) (f' : ByteArray → Option Value) (Mv : List (Nat × Nat)) (ao : Option Addr) (co' : Nat), x ≤ m ∧ i = .int .u64 x ∧ o = .slice ao O.length co' ∧ O.length ≤ co' ∧ Mv.length ≤ x ∧
          Hid (Ros wr B rb kb (Lf T) (cnt g') (Gf g') t0 t1 st (.slice (some ⟨gr, 0, none⟩) m c) f') ∧ Hid (Con0 T g') ∧ Hid (Rel E x T O) ∧ Hid (Step rb kb w3 (.slice (some ⟨gr, 0, none⟩) m c) f wr (.slice (some ⟨gr, 0, none⟩) m c) f') ∧
          Hid (O ≠ [] → ∃ d, ao = some ⟨go, d, none⟩ ∧ ∀ i (hi : i < O.length), w3.cell? ⟨go, d + i, none⟩ = some (.int .i64 (O[i] : Nat))) ∧
          Hid (wr.ownsRow w3.heap.size 31 3 mv Mv.length (flat (Lf Mv))) ∧ Hid (∀ j, mv.ownBlock = some j → ¬ Own (.slice (some ⟨gr, 0, none⟩) m c) f' j) ∧ Hid (∀ q ∈ Mv, q.2 < m)) (fun _ _ _ _ i _ => m - (intOf i).toNat)
        case atStart =>
          refine ⟨0, E, Q, g, f, [], some ⟨go, 0, none⟩, co, Nat.zero_le _, rfl, by rw [hQl.out], by rw [hQl.out]; exact hcc.out, Nat.le_refl _, HB3.out.ros, HB3.out.con, Rel.start HB.out.up.nodup2 (by rw [← HEq.out]; exact HQ.out), Step.refl _ _ _ _ _, fun _ => ⟨0, rfl, fun i hi => by rw [Nat.zero_add]; exact HQc.out i hi⟩, ⟨rfl, .inl ⟨rfl, rfl⟩⟩, fun j hj => by simp [Value.ownBlock] at hj, fun q hq => by simp at hq⟩
        case round =>
          obtain ⟨x, T, O, g', f', Mv, ao, co', hx, rfl, rfl, hOco, hMl, hRo, hCo, hRe, hSt, hOc, hMo, hMn, hMx⟩ := hrel
          have hTl : T.length = m := by rw [hRe.out.len, hm.out]
          have hszc : w3.heap.size ≤ wr.heap.size := hSt.out.turned.size
          have far : ∀ j, j < w3.heap.size → w.heap.size ≤ j → wr.heap[j]? = w3.heap[j]? := fun j hj hj2 => hSt.out.keeps hj (by omega) (by omega) (fun e => by have := HOwn.out _ e; omega)
          have k0 : wr.cell? ⟨w.heap.size, 0, none⟩ = some (.pointer (some ⟨rb, 0, none⟩)) := (World.cell?_of_block (a := ⟨w.heap.size, 0, none⟩) (far w.heap.size (by omega) (by omega))).trans ((World.cell?_of_block (a := ⟨w.heap.size, 0, none⟩) hbx3).trans hbx')
          have k1 : wr.cell? ⟨rb, 0, none⟩ = some (.slice (some ⟨gr, 0, none⟩) m c) := by simp [World.cell?, hRo.out.blk]
          by_cases hxr : x < m
          · have i1 : (x : Int) < (m : Int) := by omega
            have kH : wr.cell? ⟨w.heap.size + 1, x, none⟩ = some (.bool (hel E m x)) := (World.cell?_of_block (a := ⟨w.heap.size + 1, x, none⟩) (far (w.heap.size + 1) (by omega) (by omega))).trans (HHe3.out x hxr)
            cases hh : hel E m x
            · rw [hh] at kH
              have hh' : hel E E.length x = false := by rw [hm.out]; exact hh
              obtain ⟨j, O', rfl⟩ := hRe.out.open_pos (by rw [hm.out]; exact hxr) hh'
              obtain ⟨hjT, hjm⟩ := hRe.out.todo j (by simp)
              obtain ⟨d, rfl, hcell⟩ := hOc.out (by simp)
              have hjm' : j < m := by omega
              have ko : wr.cell? ⟨go, d, none⟩ = some (.int .i64 (j : Nat)) := (World.cell?_of_block (a := ⟨go, d, none⟩) (far go (by omega) (by omega))).trans (by have := hcell 0 (by simp); simpa using this)
              have HOc' : Hid (∀ i (hi : i < O'.length), w3.cell? ⟨go, d + 1 + i, none⟩ = some (.int .i64 (O'[i] : Nat))) := fun i hi => by
                have := hcell (i + 1) (by simp; omega)
                rw [show d + 1 + i = d + (i + 1) by omega]
                simpa using this
              have hTs : T = T.take j ++ (T[j].1, T[j].2) :: T.drop (j + 1) := by
                rw [show (T[j].1, T[j].2) = T[j] from rfl, ← List.drop_eq_getElem_cons, List.take_append_drop]
              have hTset : T.set j (T[j].1, x) = T.take j ++ (T[j].1, x) :: T.drop (j + 1) := by
                rw [List.set_eq_take_append_cons_drop, if_pos hjT]
              have hAl : (T.take j).length = j := by simp; omega
              have hdT : (T.map (·.1)).Nodup := by rw [hRe.out.addr]; exact HDs.out
              have ha0 : 0 < T[j].1 := by
                have : T[j].1 ∈ T.map (·.1) := List.mem_map.2 ⟨T[j], List.getElem_mem _, rfl⟩
                rw [hRe.out.addr] at this
                obtain ⟨q, hq, e⟩ := List.mem_map.1 this
                rw [← e]; exact HNm.out q hq
              have hnA : ∀ z, (T[j].1, z) ∉ T.take j ∧ (T[j].1, z) ∉ T.drop (j + 1) := by
                intro z
                rw [hTs, List.map_append, List.map_cons] at hdT
                have h1 := List.nodup_append.1 hdT
                refine ⟨fun hz => h1.2.2 T[j].1 (List.mem_map.2 ⟨_, hz, rfl⟩) T[j].1 (by simp) rfl, fun hz => (List.nodup_cons.1 h1.2.1).1 (List.mem_map.2 ⟨_, hz, rfl⟩)⟩
              have HU : Hid (Sh 24 (ent (T[j].1, T[j].2)) B rb kb t0 t1 st (cnt g') (cnt (out1 g' T[j].1 T[j].2)) (Gf g') (Gf (out1 g' T[j].1 T[j].2))) := shU hCo.out (by omega) ha0 (List.getElem_mem _)
              have ha6 : T[j].1 < 6 := (hCo.out.bound _ (List.getElem_mem hjT)).1
              have HI : Hid (Sh 26 (ent (T[j].1, x)) B rb kb t0 t1 st (cnt (out1 g' T[j].1 T[j].2)) (cnt (in1 (out1 g' T[j].1 T[j].2) T[j].1 x)) (Gf (out1 g' T[j].1 T[j].2)) (Gf (in1 (out1 g' T[j].1 T[j].2) T[j].1 x))) := shI (fun b hb0 hb6 => by
                have := hCo.out.glen hb0 hb6
                unfold out1 upd
                split
                · rename_i e; subst e; exact Nat.le_trans (List.length_filter_le _ _) (by omega)
                · omega) ha0 ha6
              have HC' : Hid (Con0 (T.set j (T[j].1, x)) (in1 (out1 g' T[j].1 T[j].2) T[j].1 x)) := by
                rw [hTset]
                have hc2 : Con0 (T.take j ++ (T[j].1, T[j].2) :: T.drop (j + 1)) g' := by rw [← hTs]; exact hCo.out
                exact hc2.replace ha0 (by omega) (hnA _).1 (hnA _).2
              have HR' : Hid (Rel E (x + 1) (T.set j (T[j].1, x)) O') := hRe.out.move hjT (by rw [hm.out]; exact hxr) hh'
              have hLset : Hid ((Lf T).set j ⟨(nth (Lf T) j).a, lb x, ln x⟩ = Lf (T.set j (T[j].1, x))) := by
                rw [nth_Lf T j hjT, Lf, Lf, List.map_set]; rfl
              have hnth : nth (Lf T) j = ent (T[j].1, T[j].2) := nth_Lf T j hjT
              have fj := flat_at (Lf T) j (by rw [Lf_length]; exact hjT)
              rw [hnth] at fj
              have hlT : (Lf T).length = m := by rw [Lf_length, hTl]
              generalize hTj1 : T[j].1 = a at *
              generalize hTj2 : T[j].2 = y at *
              have HFj : Hid ((flat (Lf T))[j * 3]? = some (.string (ent (a, y)).a) ∧ (flat (Lf T))[j * 3 + 1]? = some (.int .u64 (ent (a, y)).b) ∧ (flat (Lf T))[j * 3 + 2]? = some (.int .u8 (ent (a, y)).n)) := fj
              have HlT : Hid ((Lf T).length = m) := hlT
              have hrow : Hid (∀ wx G' n' f'', Ros wx B rb kb (Lf T) n' G' t0 t1 st (.slice (some ⟨gr, 0, none⟩) m c) f'' → wx.ownsRow B 31 3 (.slice (some ⟨gr, 0, none⟩) m c) m (flat (Lf T))) := fun wx G' n' f'' hr => by have := hr.own; rwa [HlT.out] at this
              have p0 : wr.cell? ⟨gr, j * 3, none⟩ = some (.string (ent (a, y)).a) := ((hrow.out _ _ _ _ hRo.out).cellAt _ (by omega)).trans fj.1
              have p1 : wr.cell? ⟨gr, j * 3 + 1, none⟩ = some (.int .u64 (ent (a, y)).b) := ((hrow.out _ _ _ _ hRo.out).cellAt _ (by omega)).trans fj.2.1
              have p2 : wr.cell? ⟨gr, j * 3 + 2, none⟩ = some (.int .u8 (ent (a, y)).n) := ((hrow.out _ _ _ _ hRo.out).cellAt _ (by omega)).trans fj.2.2
              have i2 : (j : Int) < (m : Int) := by omega
              have i3 : (0 : Int) ≤ (j : Int) := by omega
              have HhT : Hid (j < (Lf T).length) := by rw [HlT.out]; exact hjm'
              clear hcell hTs hTset hAl hdT hnA hnth fj hlT hTj1 hTj2 hjm hjT far ha6 hOc
              have hO1 : (1 : Int) ≤ ((O'.length + 1 : Nat) : Int) := by omega
              simp only [List.length_cons] at hOco ⊢
              go_wp2_with fail
              go_quiet (fail)
              have hRq : Ros (wr.drewN nq) B rb kb (Lf T) (cnt g') (Gf g') t0 t1 st (.slice (some ⟨gr, 0, none⟩) m c) f' := hRo.out.later (below_drewN (Below.refl _ _) _)
              have HRq : Hid (Ros (wr.drewN nq) B rb kb (Lf T) (cnt g') (Gf g') t0 t1 st (.slice (some ⟨gr, 0, none⟩) m c) f') := hRq
              have HSq : Hid (Step rb kb w3 (.slice (some ⟨gr, 0, none⟩) m c) f (wr.drewN nq) (.slice (some ⟨gr, 0, none⟩) m c) f') := hSt.out.trans (Step.of_below (below_drewN (Below.refl _ _) _))
              have HMq : Hid ((wr.drewN nq).ownsRow w3.heap.size 31 3 u10 Mv.length (flat (Lf Mv))) := ownsRow_block hMo.out (fun _ _ => rfl)
              have q0 : (wr.drewN nq).cell? ⟨w.heap.size, 0, none⟩ = some (.pointer (some ⟨rb, 0, none⟩)) := k0
              have q1 : (wr.drewN nq).cell? ⟨gr, j * 3, none⟩ = some (.string (ent (a, y)).a) := p0
              have q2 : (wr.drewN nq).cell? ⟨gr, j * 3 + 1, none⟩ = some (.int .u64 (ent (a, y)).b) := p1
              have q3 : (wr.drewN nq).cell? ⟨gr, j * 3 + 2, none⟩ = some (.int .u8 (ent (a, y)).n) := p2
              have hszq : w3.heap.size ≤ (wr.drewN nq).heap.size := hszc
              clear hRq
              generalize wr.drewN nq = wq at HRq HSq HMq q0 q1 q2 q3 hszq ⊢
              go_wp2_with fail
              all_goals (
                go_region_held3 (fun w' => w'.cell? ⟨w.heap.size, 0, none⟩ = some (.pointer (some ⟨rb, 0, none⟩)) ∧ w'.cell? ⟨gr, j * 3, none⟩ = some (.string (ent (a, y)).a) ∧ w'.cell? ⟨gr, j * 3 + 1, none⟩ = some (.int .u64 (ent (a, y)).b) ∧ w'.cell? ⟨gr, j * 3 + 2, none⟩ = some (.int .u8 (ent (a, y)).n))
                  (first | exact ⟨r0, r1, r2, r3⟩ | go_keep)
                  ((go_at_call 24; refine (HU.out _ _ _ _ (HRq.out.later (Below.refl _ _).drew)).mono ?_; rintro e w5 ⟨rfl, f5, hr5, hS5⟩
                    have HR5 : Hid (Ros w5 B rb kb (Lf T) (cnt (out1 g' a y)) (Gf (out1 g' a y)) t0 t1 st (.slice (some ⟨gr, 0, none⟩) m c) f5) := hr5
                    have HS5 : Hid (Step rb kb w3 (.slice (some ⟨gr, 0, none⟩) m c) f w5 (.slice (some ⟨gr, 0, none⟩) m c) f5) := (HSq.out.trans (Step.of_below (Below.refl _ _).drew)).trans hS5
                    have far5 : ∀ j, j < w3.heap.size → w.heap.size ≤ j → w5.heap[j]? = w3.heap[j]? := fun j hj hj2 => HS5.out.keeps hj (by omega) (by omega) (fun e => by have := HOwn.out _ e; omega)
                    have r0 : w5.cell? ⟨w.heap.size, 0, none⟩ = some (.pointer (some ⟨rb, 0, none⟩)) := (World.cell?_of_block (a := ⟨w.heap.size, 0, none⟩) (far5 w.heap.size (by omega) (by omega))).trans ((World.cell?_of_block (a := ⟨w.heap.size, 0, none⟩) hbx3).trans hbx')
                    have r1 : w5.cell? ⟨gr, j * 3, none⟩ = some (.string (ent (a, y)).a) := ((hrow.out _ _ _ _ hr5).cellAt _ (by omega)).trans HFj.out.1
                    have r2 : w5.cell? ⟨gr, j * 3 + 1, none⟩ = some (.int .u64 (ent (a, y)).b) := ((hrow.out _ _ _ _ hr5).cellAt _ (by omega)).trans HFj.out.2.1
                    have r3 : w5.cell? ⟨gr, j * 3 + 2, none⟩ = some (.int .u8 (ent (a, y)).n) := ((hrow.out _ _ _ _ hr5).cellAt _ (by omega)).trans HFj.out.2.2
                    have HM5 : Hid (w5.ownsRow w3.heap.size 31 3 u10 Mv.length (flat (Lf Mv)) ∧ ∀ j, u10.ownBlock = some j → ¬ Own (.slice (some ⟨gr, 0, none⟩) m c) f5 j) := ⟨ownsRow_block HMq.out (fun q hq => hS5.keeps (HMq.out.lt q hq).2 (by have := (HMq.out.lt q hq).1; omega) (by have := (HMq.out.lt q hq).1; omega) (hMn.out q hq)), fun q hq e => by
                      rcases hS5.fresh q e with e | e
                      · exact hMn.out q hq e
                      · have := (HMq.out.lt q hq).2; simp at e; omega⟩
                    clear hr5 far5))
                all_goals (
                  clear HU
                  have HL8 := labelOf_any x (by omega) w5
                  have g1 : w5.frozen? ⟨gr, j * 3 + 1, none⟩ = false := (hrow.out _ _ _ _ HR5.out).frozenAt _
                  have g2 : w5.frozen? ⟨gr, j * 3 + 2, none⟩ = false := (hrow.out _ _ _ _ HR5.out).frozenAt _
                  go_wp2_with (first
                    | (go_at_call 8; refine HL8.mono ?_; rintro e w6 ⟨rfl, hb6⟩
                       have HR6 : Hid (Ros w6 B rb kb (Lf T) (cnt (out1 g' a y)) (Gf (out1 g' a y)) t0 t1 st (.slice (some ⟨gr, 0, none⟩) m c) f5) := HR5.out.later hb6
                       have tc1 : w6.cell? ⟨gr, j * 3 + 1, none⟩ = some (.int .u64 (ent (a, y)).b) := ((hrow.out _ _ _ _ HR6.out).cellAt _ (by omega)).trans HFj.out.2.1
                       have tc2 : w6.cell? ⟨gr, j * 3 + 2, none⟩ = some (.int .u8 (ent (a, y)).n) := ((hrow.out _ _ _ _ HR6.out).cellAt _ (by omega)).trans HFj.out.2.2
                       have f1 : w6.frozen? ⟨gr, j * 3 + 1, none⟩ = false := (hrow.out _ _ _ _ HR6.out).frozenAt _
                       have f2 : w6.frozen? ⟨gr, j * 3 + 2, none⟩ = false := (hrow.out _ _ _ _ HR6.out).frozenAt _))
                  have hst := storeL (hrow.out _ _ _ _ HR6.out) j HhT.out (lb x) (ln x)
                  rw [hLset.out] at hst
                  have hse := Ros.setEntry (L' := Lf (T.set j (a, x))) (w2 := (w6.setCell ⟨gr, j * 3 + 1, none⟩ (.int .u64 (lb x))).setCell ⟨gr, j * 3 + 1 + 1, none⟩ (.int .u8 (ln x))) (by have := HR6.out; rw [← HlT.out] at this; exact this) (by rw [Lf_length, Lf_length, List.length_set]) hst.2 (by rw [HlT.out]; exact hst.1)
                  have hl7 : (Lf (T.set j (a, x))).length = m := by rw [Lf_length, List.length_set]; exact hTl
                  rw [hl7] at hse
                  have HR7 : Hid (Ros ((w6.setCell ⟨gr, j * 3 + 1, none⟩ (.int .u64 (lb x))).setCell ⟨gr, j * 3 + 1 + 1, none⟩ (.int .u8 (ln x))) B rb kb (Lf (T.set j (a, x))) (cnt (out1 g' a y)) (Gf (out1 g' a y)) t0 t1 st (.slice (some ⟨gr, 0, none⟩) m c) f5) := hse.1
                  have hS67 : Step rb kb w6 (.slice (some ⟨gr, 0, none⟩) m c) f5 ((w6.setCell ⟨gr, j * 3 + 1, none⟩ (.int .u64 (lb x))).setCell ⟨gr, j * 3 + 1 + 1, none⟩ (.int .u8 (ln x))) (.slice (some ⟨gr, 0, none⟩) m c) f5 := ⟨hse.2.mono (fun q _ hq => .inr (.inr (.inl (by rw [hq]; rfl)))), fun q hq => .inl hq⟩
                  have HS7 : Hid (Step rb kb w3 (.slice (some ⟨gr, 0, none⟩) m c) f ((w6.setCell ⟨gr, j * 3 + 1, none⟩ (.int .u64 (lb x))).setCell ⟨gr, j * 3 + 1 + 1, none⟩ (.int .u8 (ln x))) (.slice (some ⟨gr, 0, none⟩) m c) f5) := (HS5.out.trans (Step.of_below hb6)).trans hS67
                  have HM7 : Hid (((w6.setCell ⟨gr, j * 3 + 1, none⟩ (.int .u64 (lb x))).setCell ⟨gr, j * 3 + 1 + 1, none⟩ (.int .u8 (ln x))).ownsRow w3.heap.size 31 3 u10 Mv.length (flat (Lf Mv))) := ownsRow_block HM5.out.1 (fun q hq => (hse.2.block q (by have := (HM5.out.1.lt q hq).2; have := hb6.size; omega) (by have := (HM5.out.1.lt q hq).1; omega)).trans (hb6.block q (HM5.out.1.lt q hq).2))
                  clear hst hse hS67 tc1 tc2 f1 f2 g1 g2
                  generalize ((w6.setCell ⟨gr, j * 3 + 1, none⟩ (.int .u64 (lb x))).setCell ⟨gr, j * 3 + 1 + 1, none⟩ (.int .u8 (ln x))) = w7 at HR7 HS7 HM7 ⊢
                  have hrow7 : Hid (∀ wx G' n' f'', Ros wx B rb kb (Lf (T.set j (a, x))) n' G' t0 t1 st (.slice (some ⟨gr, 0, none⟩) m c) f'' → wx.ownsRow B 31 3 (.slice (some ⟨gr, 0, none⟩) m c) m (flat (Lf (T.set j (a, x))))) := fun wx G' n' f'' hr => by have := hr.own; rwa [hl7] at this
                  have HFj7 : Hid ((flat (Lf (T.set j (a, x))))[j * 3]? = some (.string (ent (a, x)).a) ∧ (flat (Lf (T.set j (a, x))))[j * 3 + 1]? = some (.int .u64 (ent (a, x)).b) ∧ (flat (Lf (T.set j (a, x))))[j * 3 + 2]? = some (.int .u8 (ent (a, x)).n)) := by
                    have hjl : j < (T.set j (a, x)).length := by rw [List.length_set]; omega
                    have := flat_at (Lf (T.set j (a, x))) j (by rw [Lf_length]; exact hjl)
                    rw [nth_Lf _ j hjl, List.getElem_set_self] at this
                    exact this
                  have far7 : ∀ w', Step rb kb w3 (.slice (some ⟨gr, 0, none⟩) m c) f w' (.slice (some ⟨gr, 0, none⟩) m c) f5 → w'.cell? ⟨w.heap.size, 0, none⟩ = some (.pointer (some ⟨rb, 0, none⟩)) := fun w' hs => (World.cell?_of_block (a := ⟨w.heap.size, 0, none⟩) (hs.keeps (j := w.heap.size) (by omega) (by omega) (by omega) (fun e => by have := HOwn.out _ e; omega))).trans ((World.cell?_of_block (a := ⟨w.heap.size, 0, none⟩) hbx3).trans hbx')
                  have s0 : w7.cell? ⟨w.heap.size, 0, none⟩ = some (.pointer (some ⟨rb, 0, none⟩)) := far7 _ HS7.out
                  have s1 : w7.cell? ⟨gr, j * 3, none⟩ = some (.string (ent (a, x)).a) := ((hrow7.out _ _ _ _ HR7.out).cellAt _ (by omega)).trans HFj7.out.1
                  have s2 : w7.cell? ⟨gr, j * 3 + 1, none⟩ = some (.int .u64 (ent (a, x)).b) := ((hrow7.out _ _ _ _ HR7.out).cellAt _ (by omega)).trans HFj7.out.2.1
                  have s3 : w7.cell? ⟨gr, j * 3 + 2, none⟩ = some (.int .u8 (ent (a, x)).n) := ((hrow7.out _ _ _ _ HR7.out).cellAt _ (by omega)).trans HFj7.out.2.2
                  have hsz7 : w3.heap.size ≤ w7.heap.size := HS7.out.turned.size
                  clear far7 HR6 hb6 HL8
                  go_wp2_with fail
                  go_region_held3 (fun w' => w'.cell? ⟨w.heap.size, 0, none⟩ = some (.pointer (some ⟨rb, 0, none⟩)) ∧ w'.cell? ⟨gr, j * 3, none⟩ = some (.string (ent (a, x)).a) ∧ w'.cell? ⟨gr, j * 3 + 1, none⟩ = some (.int .u64 (ent (a, x)).b) ∧ w'.cell? ⟨gr, j * 3 + 2, none⟩ = some (.int .u8 (ent (a, x)).n))
                    (first | exact ⟨v0, v1, v2, v3⟩ | go_keep)
                    ((go_at_call 26; refine (HI.out _ _ _ _ (HR7.out.later (Below.refl _ _).drew)).mono ?_; rintro e w8 ⟨rfl, f8, hr8, hS8⟩
                      have HR8 : Hid (Ros w8 B rb kb (Lf (T.set j (a, x))) (cnt (in1 (out1 g' a y) a x)) (Gf (in1 (out1 g' a y) a x)) t0 t1 st (.slice (some ⟨gr, 0, none⟩) m c) f8) := hr8
                      have HS8 : Hid (Step rb kb w3 (.slice (some ⟨gr, 0, none⟩) m c) f w8 (.slice (some ⟨gr, 0, none⟩) m c) f8) := (HS7.out.trans (Step.of_below (Below.refl _ _).drew)).trans hS8
                      have v0 : w8.cell? ⟨w.heap.size, 0, none⟩ = some (.pointer (some ⟨rb, 0, none⟩)) := (World.cell?_of_block (a := ⟨w.heap.size, 0, none⟩) (HS8.out.keeps (j := w.heap.size) (by omega) (by omega) (by omega) (fun e => by have := HOwn.out _ e; omega))).trans ((World.cell?_of_block (a := ⟨w.heap.size, 0, none⟩) hbx3).trans hbx')
                      have v1 : w8.cell? ⟨gr, j * 3, none⟩ = some (.string (ent (a, x)).a) := ((hrow7.out _ _ _ _ hr8).cellAt _ (by omega)).trans HFj7.out.1
                      have v2 : w8.cell? ⟨gr, j * 3 + 1, none⟩ = some (.int .u64 (ent (a, x)).b) := ((hrow7.out _ _ _ _ hr8).cellAt _ (by omega)).trans HFj7.out.2.1
                      have v3 : w8.cell? ⟨gr, j * 3 + 2, none⟩ = some (.int .u8 (ent (a, x)).n) := ((hrow7.out _ _ _ _ hr8).cellAt _ (by omega)).trans HFj7.out.2.2
                      have HM8 : Hid (w8.ownsRow w3.heap.size 31 3 u10 Mv.length (flat (Lf Mv)) ∧ ∀ j, u10.ownBlock = some j → ¬ Own (.slice (some ⟨gr, 0, none⟩) m c) f8 j) := ⟨ownsRow_block HM7.out (fun q hq => hS8.keeps (HM7.out.lt q hq).2 (by have := (HM7.out.lt q hq).1; omega) (by have := (HM7.out.lt q hq).1; omega) (HM5.out.2 q hq)), fun q hq e => by
                        rcases hS8.fresh q e with e | e
                        · exact HM5.out.2 q hq e
                        · have := (HM7.out.lt q hq).2; simp at e; omega⟩
                      clear hr8))
                  all_goals (
                    have hsz8 : w3.heap.size ≤ w8.heap.size := HS8.out.turned.size
                    go_wp2_with (first
                      | (at_builtin; refine wpList_append_lies _ rfl (.tmp 90) (.tmp 94) 32 rfl w3.heap.size 31 l0 (.agg #[.string ByteArray.empty, .int .u64 0, .int .u8 0]) 3 32 Ybaz.underlying32 hl0 hlz0 hlz1 hlz2 rfl (by decide) u10 Mv.length (flat (Lf Mv)) rfl (HM8.out.1.alloc _) ⟨w8.heap.size, 0, none⟩ 1 1 [.string (ent (a, x)).a, .int .u64 (ent (a, x)).b, .int .u8 (ent (a, x)).n] rfl rfl (World.news_of_block (cs := #[.string (ent (a, x)).a, .int .u64 (ent (a, x)).b, .int .u8 (ent (a, x)).n]) (t := 31) (fr := (0, 0)) (heap_alloc_new _ _)) (by simp [Value.oneCell']) (by omega) (by unfold maxLen; omega) (by omega) (by simp; omega) (w8.heap.size + 1) (by simp) ?_; intro gm cm w9 hown9 hgrow9 hat9 hlt9))
                    have hn9 : ∀ q, u10.ownBlock = some q → w3.heap.size ≤ q := fun q hq => (HM8.out.1.lt q hq).1
                    have hk9 : ∀ q, q < w8.heap.size → u10.ownBlock ≠ some q → w9.heap[q]? = w8.heap[q]? := fun q hq hne => (hgrow9.block q (by simp; omega) (Ne.symm hne)).trans (Below.heap_alloc _ _ _ hq)
                    have hsz9 : w8.heap.size ≤ w9.heap.size := by have := hgrow9.size; simp at this; omega
                    go_roundw
                    case rel =>
                      refine ⟨x + 1, T.set j (a, x), O', in1 (out1 g' a y) a x, f8, Mv ++ [(a, x)], _, _, by omega, by go_num, rfl, by omega, by simp; omega, ?_, HC'.out, HR'.out, ?_, ?_, ?_, ?_, ?_⟩
                      · exact Ros.keep HR8.out hsz9 (fun q hq hs => hk9 q hq (fun e => by
                          rcases hs with hs | hs | hs
                          · have := hn9 q e; omega
                          · have := hn9 q e; omega
                          · exact HM8.out.2 q e hs))
                      · exact Step.then_below HS8.out ⟨hgrow9.os, hgrow9.tape, hgrow9.output, hsz9, fun q hq => hk9 q (by omega) (fun e => by have := hn9 q e; omega)⟩
                      · intro hne
                        have hpos' := List.length_pos_iff.2 hne
                        first
                          | (exfalso; omega)
                          | exact ⟨d + 1, rfl, HOc'.out⟩
                      · have e1 : flat (Lf (Mv ++ [(a, x)])) = flat (Lf Mv) ++ [.string (ent (a, x)).a, .int .u64 (ent (a, x)).b, .int .u8 (ent (a, x)).n] := by rw [Lf_append, flat_append]; rfl
                        rw [e1, List.length_append]
                        exact hown9
                      · intro q hq hs
                        have hq' : gm = q := by simpa [Value.ownBlock] using hq
                        rcases hat9 with e | e
                        · exact HM8.out.2 q (by rw [← hq']; exact e) hs
                        · have := (Ros.own_lt HR8.out hs).2; omega
                      · intro q hq
                        rcases List.mem_append.1 hq with hq | hq
                        · exact hMx.out q hq
                        · rw [List.mem_singleton.1 hq]; exact hxr
                    case measure => simp [intOf]; omega)))
            · rw [hh] at kH
              have HR' : Hid (Rel E (x + 1) T O) := hRe.out.skip (by rw [hm.out]; exact hxr) (by rw [hm.out]; exact hh)
              clear far
              go_wp2
              go_roundw
              case rel => exact ⟨x + 1, T, O, g', f', Mv, ao, co', by omega, by go_num, rfl, hOco, by omega, hRo, hCo, HR', hSt, hOc, hMo, hMn, hMx⟩
              case measure => simp [intOf]; omega
          · obtain rfl : m = x := by omega
            have hend : Hid ((T.map (·.2)).Perm (List.range m)) := by have := hRe.out; rw [← hm.out] at this; rw [← hm.out]; exact this.end
            have hlT : (Lf T).length = m := by rw [Lf_length, hTl]
            have hown : wr.ownsRow B 31 3 (.slice (some ⟨gr, 0, none⟩) m c) m (flat (Lf T)) := by have := hRo.out.own; rwa [hlT] at this
            have HS63 : Hid (Calls Ybaz.prog 63 #[.slice (some ⟨gr, 0, none⟩) m c, .func (.func 64) #[] #[]] wr fun e w' => e = .returned (.tuple #[]) ∧ ∃ Q, Q.Perm T ∧ Up Q ∧ w'.ownsRow B 31 3 (.slice (some ⟨gr, 0, none⟩) m c) m (flat (Lf Q)) ∧ wr.grownBy w' (some gr)) :=
              sort63 _ c m _ wr h12 _ (insertion99 B gr c m T wr hTl (by omega) hown (fun q hq => (hCo.out.bound q hq).2) (hend.out.nodup_iff.2 List.nodup_range))
            clear hown far hlT
            go_wp2_with (go_at_call 63; refine HS63.out.mono ?_; rintro e w4 ⟨rfl, Q2, hQ2, hup2, hown4, hgr4⟩)
            go_ret
            have hlT : (Lf T).length = m := by rw [Lf_length, hTl]
            have hQl : (Lf Q2).length = m := by rw [Lf_length, hQ2.length_eq, hTl]
            have hse := Ros.setEntry (L' := Lf Q2) (w2 := w4) (by have := hRo.out; rw [← hlT] at this; exact this) (by rw [hQl, hlT]) hgr4 (by rw [hlT]; exact hown4)
            rw [hQl] at hse
            have hS4 : Step rb kb wr (.slice (some ⟨gr, 0, none⟩) m c) f' w4 (.slice (some ⟨gr, 0, none⟩) m c) f' := ⟨hse.2.mono (fun q _ hq => .inr (.inr (.inl (by rw [hq]; rfl)))), fun q hq => .inl hq⟩
            refine ⟨u10, Mv, Q2, g', _, f', rfl, ⟨hCo.out.of_perm hQ2, hup2, by rw [hQ2.length_eq]; omega, hse.1⟩, ((Step.of_below hB3).trans hSt.out).trans hS4, ⟨?_, ?_⟩, ?_, hMn.out, hMx.out, hMl⟩
            · have := hQ2.map (·.1)
              rwa [hRe.out.addr] at this
            · rw [hm.out]; exact (hQ2.map (·.2)).trans hend.out
            · have h1 := ownsRow_block hMo.out (w' := w4) (fun q hq => hse.2.block q (hMo.out.lt q hq).2 (by have := (hMo.out.lt q hq).1; omega))
              obtain ⟨hl, h | ⟨g2, c2, cur, e1, e2, e3⟩⟩ := h1
              · exact ⟨hl, .inl h⟩
              · exact ⟨hl, .inr ⟨g2, c2, cur, e1, by omega, e3⟩⟩
end Go.Proofs.YbulkclxkGreat.rep
