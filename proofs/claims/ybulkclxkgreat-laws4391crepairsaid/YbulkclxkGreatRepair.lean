import Derived.Test.YbulkclxkGreatTwi
import Derived.Test.YbulkclxkGreatRelabel2
import Derived.Test.YbulkclxkGreatSubs
namespace Go.Proofs.YbulkclxkGreat.rep
open Go.ChangeShapes Go.WideShapes Go.ChangeAt Go.RowKit
open lab ring maps sup put hold order del srt read
set_option linter.unusedVariables false

/-- What repair leaves. -/
structure Rep (E E' : List (Nat × Nat)) : Prop where
  pos : ∀ q ∈ E', 0 < q.1
  nod : (E'.map (·.1)).Nodup
  lab : (E'.map (·.2)).Perm (List.range E'.length)
  names : ∀ a, 0 < a → ((∃ x, (a, x) ∈ E) ↔ ∃ x, (a, x) ∈ E')

def strs (Tw : List Nat) : List Value := Tw.map fun a => .string (nm a)
theorem strs_append (A C : List Nat) : strs (A ++ C) = strs A ++ strs C := List.map_append
theorem info9 : (Ybaz.prog.info? 9).map (fun i => (i.zero, i.size, i.bytes)) = some (some (.string ByteArray.empty), 1, 16) := by kernel_rfl

/-- Half way through repair: each name once; the names held twice are known. -/
structure Half (w : World) (B rb kb : Nat) (E : List (Nat × Nat)) (t0 t1 st : Int) (v : Value) (f : ByteArray → Option Value) (tw : Value) (wx : World) (Tw : List Nat) (E2 : List (Nat × Nat)) (g2 : Nat → List Nat) (v2 : Value) (f2 : ByteArray → Option Value) : Prop where
  bk : Bk wx B rb kb E2 g2 t0 t1 st v2 f2
  step : Step rb kb w v f wx v2 f2
  pos : ∀ q ∈ E2, 0 < q.1
  once : ∀ a, Once E2 a
  names : ∀ a, 0 < a → ((∃ x, (a, x) ∈ E) ↔ ∃ x, (a, x) ∈ E2)
  row : wx.ownsRow w.heap.size 9 1 tw Tw.length (strs Tw)
  sep : ∀ j, tw.ownBlock = some j → ¬ Own v2 f2 j
  held : ∀ a ∈ Tw, 0 < a ∧ a < 6 ∧ ∃ x, (a, x) ∈ E2
  few : Tw.length ≤ 400

theorem Bk.form {w : World} {B rb kb : Nat} {E : List (Nat × Nat)} {g : Nat → List Nat} {t0 t1 st : Int} {v : Value} {f : ByteArray → Option Value} (h : Bk w B rb kb E g t0 t1 st v f) : ∃ ao c, v = .slice ao E.length c := by
  have := h.ros.own
  rw [Lf_length] at this
  obtain ⟨_, ⟨e, e2⟩ | ⟨g, c, _, e, _⟩⟩ := this
  · exact ⟨none, 0, by rw [e, e2]⟩
  · exact ⟨_, c, e⟩

section
variable {w : World} {B rb kb n : Nat} {L : List Pr} {G : ByteArray → List (Int × Int)} {t0 t1 st : Int} {v : Value} {f : ByteArray → Option Value}
theorem Ros.c0 (h : Ros w B rb kb L n G t0 t1 st v f) : w.cell? ⟨rb, 0, none⟩ = some v := by simp [World.cell?, h.blk]
theorem Ros.c1 (h : Ros w B rb kb L n G t0 t1 st v f) : w.cell? ⟨rb, 1, none⟩ = some (.map (some kb)) := by simp [World.cell?, h.blk]
end

set_option maxRecDepth 100000 in
set_option maxHeartbeats 4000000 in
theorem repair_bk {w : World} {B rb kb : Nat} {E : List (Nat × Nat)} {g : Nat → List Nat} {t0 t1 st : Int} {v : Value} {f : ByteArray → Option Value} (h : Bk w B rb kb E g t0 t1 st v f) :
    Calls Ybaz.prog 29 #[.pointer (some ⟨rb, 0, none⟩)] w fun e w' => ∃ mv Mv E' g' v' f', e = .returned mv ∧ Bk w' B rb kb E' g' t0 t1 st v' f' ∧ Step rb kb w v f w' v' f' ∧ Rep E E' ∧
      w'.ownsRow w.heap.size 31 3 mv Mv.length (flat (Lf Mv)) ∧ (∀ j, mv.ownBlock = some j → ¬ Own v' f' j) ∧ (∀ q ∈ Mv, q.2 < E'.length) ∧ Mv.length ≤ 1000 := by
  have c0 : w.cell? ⟨rb, 0, none⟩ = some v := by simp [World.cell?, h.ros.blk]
  have hrb : rb < w.heap.size := World.block_lt_of_cell? _ _ c0
  have hkb : kb < w.heap.size := h.ros.map.lt
  have HC41 : Hid (Calls Ybaz.prog 41 #[v, .func (.func 33) #[] #[]] w fun e w' => ∃ v', e = .returned v' ∧ w'.ownsRow B 31 3 v' (real E).length (flat (Lf (real E))) ∧ v'.ownBlock = v.ownBlock ∧ w.grownBy w' v.ownBlock) := by
    have := delete41 B v (Lf E) w (by rw [Lf_length]; have := h.len; omega) h.ros.own
    rw [Lf_real h.con.bound, Lf_length] at this
    exact this
  have HB : Hid (Bk w B rb kb E g t0 t1 st v f) := h
  clear h
  go_enter Ybaz.func29, Ybaz.ntmps29
  go_wp2_with (first
    | (go_at_call 41; refine HC41.out.mono ?_; rintro e w1 ⟨v1, rfl, hown1, hob, hgr1⟩
       have hvB : ∀ k, v.ownBlock = some k → B ≤ k := fun k hk => (HB.out.ros.own.lt k hk).1
       have hrb1 : w1.heap[rb]? = w.heap[rb]? := hgr1.block rb hrb (fun e => by have := hvB _ e.symm; have := HB.out.ros.hrb; omega)
       have e0 : w1.cell? ⟨rb, 0, none⟩ = some v := (World.cell?_of_block (a := ⟨rb, 0, none⟩) hrb1).trans c0
       have e1 : w1.frozen? ⟨rb, 0, none⟩ = false := by simp [World.frozen?, hrb1, HB.out.ros.blk]
       have hform : ∃ ao c, v1 = .slice ao (real E).length c := by
         obtain ⟨_, ⟨e, e2⟩ | ⟨g, c, _, e, _⟩⟩ := hown1
         · exact ⟨none, 0, by rw [e, e2]⟩
         · exact ⟨_, c, e⟩
       obtain ⟨ao, c1, rfl⟩ := hform
       have HO1 : Hid (w1.ownsRow B 31 3 (.slice ao (real E).length c1) (real E).length (flat (Lf (real E)))) := hown1
       clear hown1))
  obtain ⟨hR2, hT2⟩ := HB.out.ros.setRing (L' := Lf (real E)) (v' := .slice ao (real E).length c1) hgr1 (by rw [Lf_length]; exact HO1.out) (.inl hob)
  have HB2 : Hid (Bk (w1.setCell ⟨rb, 0, none⟩ (.slice ao (real E).length c1)) B rb kb (real E) g t0 t1 st (.slice ao (real E).length c1) f) := ⟨HB.out.con.real, HB.out.up.sub List.filter_sublist, Nat.le_trans (List.length_filter_le _ _) HB.out.len, hR2⟩
  have HS2 : Hid (Step rb kb w v f (w1.setCell ⟨rb, 0, none⟩ (.slice ao (real E).length c1)) (.slice ao (real E).length c1) f) := ⟨hT2.mono (fun k _ hs => by rcases hs with e | e; exact .inl e; exact .inr (.inr (.inl e.symm))), fun k hk => by
    rcases hk with e | e
    · exact .inl (.inl (by rw [← hob]; exact e))
    · exact .inl (.inr e)⟩
  clear hR2 hT2 HO1 e0 e1
  generalize w1.setCell ⟨rb, 0, none⟩ (.slice ao (real E).length c1) = w2 at HB2 HS2 ⊢
  have d0 : w2.cell? ⟨rb, 0, none⟩ = some (.slice ao (real E).length c1) := by simp [World.cell?, HB2.out.ros.blk]
  have d1 : w2.cell? ⟨rb, 1, none⟩ = some (.map (some kb)) := by simp [World.cell?, HB2.out.ros.blk]
  have hlen : ∀ wx ty, Below w2.heap.size w2 wx → (Builtin.len_ #[63] ty #[.map (some kb)]).run Ybaz.prog wx = .ok (.int .i64 (cnt g)) wx := fun wx ty hb => (HB2.out.ros.map.of_block (hb.block _ HB2.out.ros.map.lt)).len Ybaz.underlying63 ty
  have hl0 : ∀ ty, (Builtin.len_ #[63] ty #[.map (some kb)]).run Ybaz.prog w2 = .ok (.int .i64 (cnt g)) w2 := fun ty => hlen w2 ty (Below.refl _ _)
  have hl1 : ∀ ty, (Builtin.len_ #[63] ty #[.map (some kb)]).run Ybaz.prog w2.drew = .ok (.int .i64 (cnt g)) w2.drew := fun ty => hlen _ ty (Below.refl _ _).drew
  have hlN : ∀ n ty, (Builtin.len_ #[63] ty #[.map (some kb)]).run Ybaz.prog (w2.drewN n) = .ok (.int .i64 (cnt g)) (w2.drewN n) := fun n ty => hlen _ ty (below_drewN (Below.refl _ _) _)
  clear hlen
  go_quiet (fail)
  have HB3 : Hid (Bk (w2.drewN nq) B rb kb (real E) g t0 t1 st (.slice ao (real E).length c1) f) := HB2.out.later (below_drewN (Below.refl _ _) _)
  have HS3 : Hid (Step rb kb w v f (w2.drewN nq) (.slice ao (real E).length c1) f) := HS2.out.trans (Step.of_below (below_drewN (Below.refl _ _) _))
  have d0' : (w2.drewN nq).cell? ⟨rb, 0, none⟩ = some (.slice ao (real E).length c1) := d0
  clear hl0 hl1 hlN d0 d1 HB2 HS2
  generalize w2.drewN nq = w3 at HB3 HS3 d0' ⊢
  go_upto_if 27 with fail
  go_cut [3] (fun tw wx => ∃ Tw E2 g2 v2 f2, Hid (Half w B rb kb E t0 t1 st v f tw wx Tw E2 g2 v2 f2))
  case first =>
    have hnm1 : ∀ a, 0 < a → ((∃ x, (a, x) ∈ E) ↔ ∃ x, (a, x) ∈ real E) := fun a ha => by
      constructor
      · rintro ⟨x, hx⟩; exact ⟨x, mem_sel.1 (by rw [sel_real a E ha]; exact mem_sel.2 hx)⟩
      · rintro ⟨x, hx⟩; exact ⟨x, mem_sel.1 (by rw [← sel_real a E ha]; exact mem_sel.2 hx)⟩
    have HN1 : Hid (∀ a, 0 < a → ((∃ x, (a, x) ∈ E) ↔ ∃ x, (a, x) ∈ real E)) := hnm1
    clear hnm1
    by_cases hc : cnt g < (real E).length
    · have hpos : 0 < (real E).length := by omega
      have hroE := HB3.out.ros.own
      rw [Lf_length] at hroE
      obtain ⟨gr, c2, he, _, hgr⟩ := hroE.form hpos
      obtain ⟨rfl, rfl⟩ : ao = some ⟨gr, 0, none⟩ ∧ c1 = c2 := by
        simp only [Value.slice.injEq] at he
        exact ⟨he.1, he.2.2⟩
      have HC18 : Hid (Calls Ybaz.prog 18 #[.slice (some ⟨gr, 0, none⟩) (real E).length c1] w3 fun e w' => ∃ g' c', e = .returned (.slice (some ⟨g', 0, none⟩) (real E).length c') ∧ w'.ownsRow w3.heap.size 31 3 (.slice (some ⟨g', 0, none⟩) (real E).length c') (real E).length (flat (Lf (real E))) ∧ Below w3.heap.size w3 w') := by
        have := clone_any B gr c1 (Lf (real E)) w3 (by rw [Lf_length]; exact hpos) (by rw [Lf_length]; have := HB3.out.len; omega) (by rw [Lf_length]; exact hroE)
        rw [Lf_length] at this
        exact this
      have hn4 : (real E).length ≤ 400 := HB3.out.len
      clear hroE he
      go_wp2_with (first
        | (go_at_call 18; refine HC18.out.mono ?_; rintro e w4 ⟨gc, cc, rfl, hown4, hb4⟩
           have HO4 : Hid (w4.ownsRow w3.heap.size 31 3 (.slice (some ⟨gc, 0, none⟩) (real E).length cc) (real E).length (flat (Lf (real E)))) := hown4
           clear hown4))
      have hb4s := hb4.size
      have hw3 : w.heap.size ≤ w3.heap.size := HS3.out.turned.size
      have hgc := HO4.out.lt gc rfl
      have HB4 : Hid (Bk w4 B rb kb (real E) g t0 t1 st (.slice (some ⟨gr, 0, none⟩) (real E).length c1) f) := HB3.out.later hb4
      have HOwn : Hid (∀ j, Own (.slice (some ⟨gr, 0, none⟩) (real E).length c1) f j → j < w3.heap.size) := fun j hj => (Ros.own_lt HB3.out.ros hj).2
      have hrb3 : rb < w3.heap.size := by omega
      have hkb3 : kb < w3.heap.size := by omega
      generalize hn0 : (real E).length = n at *
      have hn : Hid ((real E).length = n) := hn0
      clear hn0
      obtain ⟨s0, hs0, hsz0, hsz1, hsz2⟩ := info_parts info9
      go_loopw [3, 5, 34] (fun tw _ i wr => ∃ (k : Nat) (Tw : List Nat) (E2 : List (Nat × Nat)) (g2 : Nat → List Nat) (v2 : Value) (f2 : ByteArray → Option Value), k ≤ n ∧ i = .int .i64 k ∧ Tw.length ≤ k ∧ Hid (Bk wr B rb kb E2 g2 t0 t1 st v2 f2) ∧ Hid (Step rb kb w4 (.slice (some ⟨gr, 0, none⟩) n c1) f wr v2 f2) ∧ Hid (Twi (real E) k E2) ∧
        Hid (wr.ownsRow w4.heap.size 9 1 tw Tw.length (strs Tw)) ∧ Hid (∀ j, tw.ownBlock = some j → ¬ Own v2 f2 j) ∧ Hid (∀ a ∈ Tw, 0 < a ∧ a < 6 ∧ ∃ x, (a, x) ∈ real E)) (fun _ _ i _ => n - (intOf i).toNat)
      case atStart =>
        exact ⟨0, [], real E, g, _, f, Nat.zero_le _, rfl, Nat.le_refl _, HB4.out, Step.refl _ _ _ _ _, Twi.start _, ⟨rfl, .inl ⟨rfl, rfl⟩⟩, fun j hj => by simp [Value.ownBlock] at hj, fun a ha => by simp at ha⟩
      case round =>
        obtain ⟨k, Tw, E2, g2, v2, f2, hk, rfl, hTl, hBk, hSt, hTw, hRow, hSep, hHe⟩ := hrel
        have hszr : w4.heap.size ≤ wr.heap.size := hSt.out.turned.size
        by_cases hkr : k < n
        · have hkE : k < (real E).length := by rw [hn.out]; exact hkr
          have hgk : wr.heap[gc]? = w4.heap[gc]? := hSt.out.keeps hgc.2 (by omega) (by omega) (fun e => by have := HOwn.out _ e; omega)
          have fk := flat_at (Lf (real E)) k (by rw [Lf_length]; exact hkE)
          rw [nth_Lf _ k hkE] at fk
          have a0 := (World.cell?_of_block (a := ⟨gc, k * 3, none⟩) hgk).trans ((HO4.out.cellAt _ (by omega)).trans fk.1)
          have a1 := (World.cell?_of_block (a := ⟨gc, k * 3 + 1, none⟩) hgk).trans ((HO4.out.cellAt _ (by omega)).trans fk.2.1)
          have a2 := (World.cell?_of_block (a := ⟨gc, k * 3 + 2, none⟩) hgk).trans ((HO4.out.cellAt _ (by omega)).trans fk.2.2)
          have hq := List.getElem_mem hkE
          have ha0 : 0 < (real E)[k].1 := real_pos _ hq
          have ha6 : (real E)[k].1 < 6 := (HB3.out.con.bound _ hq).1
          have hpr : ∃ y, ((real E)[k].1, y) ∈ E2 := hTw.out.pres _ (real E)[k].2 hq
          have HX : Hid ((Once E2 (real E)[k].1 → Twi (real E) (k + 1) E2) ∧ (∀ E3, Adm (real E)[k].1 E2 E3 → Twi (real E) (k + 1) E3) ∧ ∃ x, ((real E)[k].1, x) ∈ real E) := ⟨fun h => hTw.out.skip hkE h, fun E3 h => hTw.out.adm hkE h, ⟨(real E)[k].2, hq⟩⟩
          have hent : ent (real E)[k] = ⟨nm (real E)[k].1, (ent (real E)[k]).b, (ent (real E)[k]).n⟩ := rfl
          rw [hent] at a0 a1 a2
          generalize (ent (real E)[k]).b = eb at a0 a1 a2
          generalize (ent (real E)[k]).n = en at a0 a1 a2
          clear hent fk hgk hq
          generalize (real E)[k].1 = a at *
          simp only at a0 a1 a2
          have hgne : g2 a ≠ [] := by
            obtain ⟨y, hy⟩ := hpr
            intro e
            have := (hBk.out.con.gmem ha0 ha6).2 hy
            rw [e] at this; simp at this
          have hG : Gf g2 (nm a) = (g2 a).map lbl := Gf_nm g2 ha0 ha6
          obtain ⟨v0, hf⟩ : ∃ v0, f2 (nm a) = some v0 := by
            have := hBk.out.ros.keys (nm a)
            rw [hG] at this
            have hg : ((g2 a).map lbl).isEmpty = false := by
              rw [List.isEmpty_map]
              cases hh : g2 a with
              | nil => exact absurd hh hgne
              | cons => rfl
            rw [hg] at this
            exact Option.isSome_iff_exists.1 this
          have hrow := hBk.out.ros.rows (nm a)
          rw [hG, hf] at hrow
          obtain ⟨g0, c0, hv0, _, _⟩ := (show wr.ownsRow B 28 2 v0 ((g2 a).map lbl).length (flat2 ((g2 a).map lbl)) from hrow).form (by rw [List.length_map]; exact List.length_pos_iff.2 hgne)
          rw [List.length_map] at hv0
          subst hv0
          have hlook : ∀ wx, Below wr.heap.size wr wx → (Instr.lookup 63 (.map (some kb)) (.string (nm a)) false).run Ybaz.prog wx = .ok (.slice (some ⟨g0, 0, none⟩) (g2 a).length c0) wx := fun wx hb => by
            have := look63 (hBk.out.ros.map.of_block (hb.block _ hBk.out.ros.map.lt)) (nm a) (nm_size a)
            rw [hf] at this
            exact this
          have hlA : ∀ o q, (Instr.lookup 63 (.map (some kb)) (.string (nm a)) false).run Ybaz.prog ((wr.alloc o).drewN q) = .ok (.slice (some ⟨g0, 0, none⟩) (g2 a).length c0) ((wr.alloc o).drewN q) := fun o q => hlook _ (below_drewN ((Below.refl _ _).alloc (Nat.le_refl _) _) _)
          have m1 : ∀ o, (wr.alloc o).cell? ⟨rb, 1, none⟩ = some (.map (some kb)) := fun o => by
            rw [World.cell?_alloc_past _ _ _ (by show rb < _; omega)]; exact Ros.c1 hBk.out.ros
          have i1 : (k : Int) < (n : Int) := by omega
          have hgl : (g2 a).length ≤ 400 := by have := hBk.out.con.glen ha0 ha6; have := hBk.out.len; omega
          have HG : Hid (g2 a ≠ []) := hgne
          clear hlook hrow hG hf hgne hpr
          generalize hLg : (g2 a).length = lg at *
          have HLg : Hid ((g2 a).length = lg) := hLg
          clear hLg
          by_cases hl1 : 1 < lg
          · have i2 : decide ((lg : Int) > 1) = true := by simp; omega
            go_wp2_with fail
            go_quiet (fail)
            have hbq : Below wr.heap.size wr ((wr.alloc (.cells #[.string (nm a), .int .u64 eb, .int .u8 en] 31)).drewN nq) := below_drewN ((Below.refl _ _).alloc (Nat.le_refl _) _) _
            have HBq : Hid (Bk ((wr.alloc (.cells #[.string (nm a), .int .u64 eb, .int .u8 en] 31)).drewN nq) B rb kb E2 g2 t0 t1 st v2 f2) := hBk.out.later hbq
            have HSq : Hid (Step rb kb w4 (.slice (some ⟨gr, 0, none⟩) n c1) f ((wr.alloc (.cells #[.string (nm a), .int .u64 eb, .int .u8 en] 31)).drewN nq) v2 f2) := hSt.out.trans (Step.of_below hbq)
            have HRq : Hid (((wr.alloc (.cells #[.string (nm a), .int .u64 eb, .int .u8 en] 31)).drewN nq).ownsRow w4.heap.size 9 1 u3 Tw.length (strs Tw)) := ownsRow_block hRow.out (fun q hq => hbq.block q (hRow.out.lt q hq).2)
            have x0 : ((wr.alloc (.cells #[.string (nm a), .int .u64 eb, .int .u8 en] 31)).drewN nq).cell? ⟨wr.heap.size, 0, none⟩ = some (.string (nm a)) := by
              show (wr.alloc _).cell? _ = _
              rw [World.cell?_alloc_at _ _ _ _ rfl]; rfl
            have hszq : wr.heap.size < ((wr.alloc (.cells #[.string (nm a), .int .u64 eb, .int .u8 en] 31)).drewN nq).heap.size := by show _ < (wr.alloc _).heap.size; simp
            have HOw : Hid (∀ j, Own v2 f2 j → j < wr.heap.size) := fun j hj => (Ros.own_lt hBk.out.ros hj).2
            clear hbq m1 hlA a0 a1 a2
            generalize (wr.alloc (.cells #[.string (nm a), .int .u64 eb, .int .u8 en] 31)).drewN nq = wq at HBq HSq HRq x0 hszq ⊢
            have HAd : Hid (Calls Ybaz.prog 42 #[.pointer (some ⟨rb, 0, none⟩), .string (nm a)] wq fun e w' => ∃ r, e = .returned (.int .i64 r) ∧ ∃ E' g' v' f', Bk w' B rb kb E' g' t0 t1 st v' f' ∧ Step rb kb wq v2 f2 w' v' f' ∧ Adm a E2 E') := admit_bk HBq.out a ha0 ha6 HG.out
            go_wp2_with (first
              | (go_at_call 42; refine HAd.out.mono ?_; rintro e w5 ⟨r, rfl, E3, g3, v3, f3, hbk3, hst3, hadm⟩
                 have HB5 : Hid (Bk w5 B rb kb E3 g3 t0 t1 st v3 f3) := hbk3
                 have HS5 : Hid (Step rb kb wq v2 f2 w5 v3 f3) := hst3
                 have HA5 : Hid (Adm a E2 E3) := hadm
                 have hbx5 : w5.heap[wr.heap.size]? = wq.heap[wr.heap.size]? := hst3.keeps hszq (by omega) (by omega) (fun e => Nat.lt_irrefl _ (HOw.out _ e))
                 have y0 : w5.cell? ⟨wr.heap.size, 0, none⟩ = some (.string (nm a)) := (World.cell?_of_block (a := ⟨wr.heap.size, 0, none⟩) hbx5).trans x0
                 have HR5 : Hid (w5.ownsRow w4.heap.size 9 1 u3 Tw.length (strs Tw) ∧ ∀ j, u3.ownBlock = some j → ¬ Own v3 f3 j) := ⟨ownsRow_block HRq.out (fun q hq => hst3.keeps (HRq.out.lt q hq).2 (by have := (HRq.out.lt q hq).1; omega) (by have := (HRq.out.lt q hq).1; omega) (hSep.out q hq)), fun q hq e => by
                   rcases hst3.fresh q e with e | e
                   · exact hSep.out q hq e
                   · have := (HRq.out.lt q hq).2; omega⟩
                 have hsz5 : wq.heap.size ≤ w5.heap.size := hst3.turned.size
                 clear hbk3 hst3 hadm hbx5)
              | (at_builtin; refine wpList_append_lies _ rfl (.tmp 51) (.tmp 54) 64 rfl w4.heap.size 9 s0 (.string ByteArray.empty) 1 16 Ybaz.underlying64 hs0 hsz0 hsz1 hsz2 rfl (by decide) u3 Tw.length (strs Tw) rfl (HR5.out.1.alloc _) ⟨w5.heap.size, 0, none⟩ 1 1 [.string (nm a)] rfl rfl (World.news_of_block (cs := #[.string (nm a)]) (t := 9) (fr := (0, 0)) (heap_alloc_new _ _)) (by simp [Value.oneCell']) (by omega) (by unfold maxLen; omega) (by omega) (by simp; omega) (w5.heap.size + 1) (by simp) ?_; intro gm cm w6 hown6 hgrow6 hat6 hlt6))
            have hn6 : ∀ q, u3.ownBlock = some q → w4.heap.size ≤ q := fun q hq => (HR5.out.1.lt q hq).1
            have hk6 : ∀ q, q < w5.heap.size → u3.ownBlock ≠ some q → w6.heap[q]? = w5.heap[q]? := fun q hq hne => (hgrow6.block q (by simp; omega) (Ne.symm hne)).trans (Below.heap_alloc _ _ _ hq)
            have hsz6 : w5.heap.size ≤ w6.heap.size := by have := hgrow6.size; simp at this; omega
            go_roundw
            case rel =>
              refine ⟨k + 1, Tw ++ [a], E3, g3, v3, f3, by omega, by go_num, by simp; omega, ?_, ?_, HX.out.2.1 E3 HA5.out, ?_, ?_, ?_⟩
              · exact ⟨HB5.out.con, HB5.out.up, HB5.out.len, Ros.keep HB5.out.ros hsz6 (fun q hq hs => hk6 q hq (fun e => by
                  rcases hs with hs | hs | hs
                  · have := hn6 q e; omega
                  · have := hn6 q e; omega
                  · exact HR5.out.2 q e hs))⟩
              · exact Step.then_below (HSq.out.trans HS5.out) ⟨hgrow6.os, hgrow6.tape, hgrow6.output, hsz6, fun q hq => hk6 q (by omega) (fun e => by have := hn6 q e; omega)⟩
              · rw [strs_append, List.length_append]; exact hown6
              · intro q hq hs
                have hq' : gm = q := by simpa [Value.ownBlock] using hq
                rcases hat6 with e | e
                · exact HR5.out.2 q (by rw [← hq']; exact e) hs
                · have := (Ros.own_lt HB5.out.ros hs).2; omega
              · intro b hb
                rcases List.mem_append.1 hb with hb | hb
                · exact hHe.out b hb
                · rw [List.mem_singleton.1 hb]; exact ⟨ha0, ha6, HX.out.2.2⟩
            case measure => simp [intOf]; omega
          · have i2 : decide ((lg : Int) > 1) = false := by simp; omega
            go_wp2_with fail
            go_quiet (fail)
            go_wp2
            go_roundw
            case rel =>
              have hbq : Below wr.heap.size wr ((wr.alloc (.cells #[.string (nm a), .int .u64 eb, .int .u8 en] 31)).drewN nq) := below_drewN ((Below.refl _ _).alloc (Nat.le_refl _) _) _
              exact ⟨k + 1, Tw, E2, g2, v2, f2, by omega, by go_num, by omega, hBk.out.later hbq, hSt.out.trans (Step.of_below hbq), HX.out.1 (once_of_short hBk.out.con ha0 ha6 (by rw [HLg.out]; omega)), ownsRow_block hRow.out (fun q hq => hbq.block q (hRow.out.lt q hq).2), hSep, hHe⟩
            case measure => simp [intOf]; omega
        · obtain rfl : n = k := by omega
          have HTe : Hid (Twi (real E) (real E).length E2) := by rw [hn.out]; exact hTw.out
          go_wp2
          go_meet
          have hsub := HTe.out.sub
          refine ⟨Tw, E2, g2, v2, f2, { bk := hBk.out, step := (HS3.out.trans (Step.of_below hb4)).trans hSt.out, pos := fun q hq => real_pos q (hsub.subset hq), once := HTe.out.end, names := fun a ha => ?_, row := ?_, sep := hSep.out, held := fun a ha => ?_, few := by omega }⟩
          · rw [HN1.out a ha]
            constructor
            · rintro ⟨x, hx⟩; exact HTe.out.pres a x hx
            · rintro ⟨x, hx⟩; exact ⟨x, hsub.subset hx⟩
          · obtain ⟨hl, h | ⟨g9, c9, cur, e1, e2, e3⟩⟩ := hRow.out
            · exact ⟨hl, .inl h⟩
            · exact ⟨hl, .inr ⟨g9, c9, cur, e1, by omega, e3⟩⟩
          · obtain ⟨h1, h2, x, hx⟩ := hHe.out a ha
            exact ⟨h1, h2, HTe.out.pres a x hx⟩
    · go_wp2_with fail
      go_meet
      exact ⟨[], real E, g, _, f, { bk := HB3.out, step := HS3.out, pos := real_pos, once := once_of_cnt HB3.out.con real_pos hc, names := HN1.out, row := ⟨rfl, .inl ⟨rfl, rfl⟩⟩, sep := fun j hj => by simp [Value.ownBlock] at hj, held := fun a ha => by simp at ha, few := by simp }⟩
  case rest =>
    obtain ⟨Tw, E2, g2, v2, f2, hH⟩ := hcut
    have hwc : w.heap.size ≤ wc.heap.size := hH.out.step.turned.size
    have HRel : Hid (Calls Ybaz.prog 43 #[.pointer (some ⟨rb, 0, none⟩)] wc fun e w' => ∃ mv Mv E3 g3 v3 f3, e = .returned mv ∧ Bk w' B rb kb E3 g3 t0 t1 st v3 f3 ∧ Step rb kb wc v2 f2 w' v3 f3 ∧ Rep E E3 ∧ (∀ a, 0 < a → (∃ x, (a, x) ∈ E2) → ∃ x, (a, x) ∈ E3) ∧
        w'.ownsRow wc.heap.size 31 3 mv Mv.length (flat (Lf Mv)) ∧ (∀ j, mv.ownBlock = some j → ¬ Own v3 f3 j) ∧ (∀ q ∈ Mv, q.2 < E3.length) ∧ Mv.length ≤ 12) := by
      by_cases hE : E2 = []
      · obtain ⟨ao2, c2, hv2⟩ := Bk.form hH.out.bk
        rw [hE] at hv2
        have hc := Ros.c0 hH.out.bk.ros
        rw [hv2] at hc
        refine (relabel_nil rb c2 ao2 wc hc).mono ?_
        rintro e w' ⟨rfl, hb⟩
        refine ⟨_, [], E2, g2, v2, f2, rfl, hH.out.bk.later hb, Step.of_below hb, ⟨hH.out.pos, by rw [hE]; exact List.nodup_nil, by rw [hE]; exact List.Perm.refl _, hH.out.names⟩, fun a _ h => h, ⟨rfl, .inl ⟨rfl, rfl⟩⟩, fun j hj => by simp [Value.ownBlock] at hj, by simp, by simp⟩
      · have hnd := once_nodup hH.out.bk.up hH.out.once
        have h6 := names_few (fun q hq => (hH.out.bk.con.bound q hq).1) hnd
        refine (relabel_bk hH.out.bk (List.length_pos_iff.2 hE) (by omega) hH.out.pos hnd).mono ?_
        rintro e w' ⟨mv, Mv, E3, g3, v3, f3, rfl, hb3, hs3, hr3, ho3, hn3, hx3, hl3⟩
        have hlen : E3.length = E2.length := by have := hr3.addr.length_eq; simpa using this
        have hmemA : ∀ a, (∃ x, (a, x) ∈ E2) ↔ ∃ x, (a, x) ∈ E3 := fun a => by
          have hh := hr3.addr.mem_iff (a := a)
          simp only [List.mem_map, Prod.exists, exists_eq_right, exists_and_right] at hh
          exact hh.symm
        refine ⟨mv, Mv, E3, g3, v3, f3, rfl, hb3, hs3, ⟨fun q hq => ?_, hr3.addr.nodup_iff.2 hnd, by rw [hlen]; exact hr3.lab, fun a ha => (hH.out.names a ha).trans (hmemA a)⟩, fun a _ h => (hmemA a).1 h, ho3, hn3, by rw [hlen]; exact hx3, by omega⟩
        obtain ⟨x, hx⟩ := (hmemA q.1).2 ⟨q.2, hq⟩
        exact hH.out.pos (q.1, x) hx
    obtain ⟨aot, ct, rfl⟩ : ∃ ao c, u3 = .slice ao Tw.length c := by
      obtain ⟨_, ⟨e, e2⟩ | ⟨g, c, _, e, _⟩⟩ := hH.out.row
      · exact ⟨none, 0, by rw [e, e2]⟩
      · exact ⟨_, c, e⟩
    have hTf := hH.out.few
    obtain ⟨l0, hl0, hlz0, hlz1, hlz2⟩ := info_parts info31
    go_wp2_with (first
      | (go_at_call 43; refine HRel.out.mono ?_; rintro e w5 ⟨mv, Mv, E3, g3, v3, f3, rfl, hb3, hs3, hr3, hn3, ho3, hp3, hx3, hl3⟩
         have HB5 : Hid (Bk w5 B rb kb E3 g3 t0 t1 st v3 f3) := hb3
         have HS5 : Hid (Step rb kb w v f w5 v3 f3) := hH.out.step.trans hs3
         have HR5 : Hid (Rep E E3) := hr3
         have HN5 : Hid (∀ a, 0 < a → (∃ x, (a, x) ∈ E2) → ∃ x, (a, x) ∈ E3) := hn3
         have HT5 : Hid (w5.ownsRow w.heap.size 9 1 (.slice aot Tw.length ct) Tw.length (strs Tw) ∧ ∀ j, (Value.slice aot Tw.length ct).ownBlock = some j → j < wc.heap.size) := ⟨ownsRow_block hH.out.row (fun q hq => hs3.keeps (hH.out.row.lt q hq).2 (by have := (hH.out.row.lt q hq).1; omega) (by have := (hH.out.row.lt q hq).1; omega) (hH.out.sep q hq)), fun j hj => (hH.out.row.lt j hj).2⟩
         have HM5 : Hid (w5.ownsRow wc.heap.size 31 3 mv Mv.length (flat (Lf Mv)) ∧ (∀ j, mv.ownBlock = some j → ¬ Own v3 f3 j) ∧ ∀ q ∈ Mv, q.2 < E3.length) := ⟨ho3, hp3, hx3⟩
         have hwc5 : wc.heap.size ≤ w5.heap.size := hs3.turned.size
         clear hb3 hs3 hr3 hn3 ho3 hp3 hx3))
    clear HRel
    go_loopw [6, 8, 61] (fun mv _ i wr => ∃ (k : Nat) (Mv : List (Nat × Nat)), k ≤ Tw.length ∧ i = .int .i64 k ∧ Mv.length ≤ 12 + k ∧ wc.heap.size ≤ wr.heap.size ∧ Hid (Bk wr B rb kb E3 g3 t0 t1 st v3 f3) ∧ Hid (Step rb kb w v f wr v3 f3) ∧ Hid (wr.ownsRow w.heap.size 9 1 (.slice aot Tw.length ct) Tw.length (strs Tw)) ∧
      Hid (wr.ownsRow wc.heap.size 31 3 mv Mv.length (flat (Lf Mv)) ∧ (∀ j, mv.ownBlock = some j → ¬ Own v3 f3 j) ∧ ∀ q ∈ Mv, q.2 < E3.length)) (fun _ _ i _ => Tw.length - (intOf i).toNat)
    case atStart => exact ⟨0, Mv, Nat.zero_le _, rfl, by omega, hwc5, HB5, HS5, HT5.out.1, HM5⟩
    case round =>
      obtain ⟨k, Mv', hk, rfl, hMl, hwcr, hBk, hSt, hTr, hMr⟩ := hrel
      by_cases hkr : k < Tw.length
      · obtain ⟨gt, ct', hte, hgt1, hgt2⟩ := hTr.out.form (by omega)
        obtain ⟨rfl, rfl⟩ : aot = some ⟨gt, 0, none⟩ ∧ ct = ct' := by
          simp only [Value.slice.injEq] at hte
          exact ⟨hte.1, hte.2.2⟩
        clear hte
        have a0 : wr.cell? ⟨gt, k, none⟩ = some (.string (nm Tw[k])) := (hTr.out.cellAt k (by omega)).trans (by simp [strs, List.getElem?_eq_getElem hkr])
        obtain ⟨ha0, ha6, hin⟩ := hH.out.held Tw[k] (List.getElem_mem _)
        have hin3 := HN5.out _ ha0 hin
        generalize Tw[k] = a at *
        have i1 : (k : Int) < (Tw.length : Int) := by omega
        have HC44 : Hid (∀ o, o = Obj.cells #[.string (nm a)] 9 (0, 0) → Calls Ybaz.prog 44 #[u6, .func (.func 45) #[] #[.pointer (some ⟨wr.heap.size, 0, none⟩)]] (wr.alloc o) fun e w' => (∃ b, e = .returned (.bool b)) ∧ Below (wr.alloc o).heap.size (wr.alloc o) w') := fun o ho => by
          have hro := hMr.out.1.alloc o
          rw [← Lf_length Mv'] at hro
          exact contains44 wc.heap.size wr.heap.size u6 (Lf Mv') (nm a) (wr.alloc o) (by rw [Lf_length]; omega) hro (by rw [ho, World.cell?_alloc_at _ _ _ _ rfl]; rfl)
        clear hin
        go_wp2_with (go_at_call 44; refine (HC44.out _ rfl).mono ?_; rintro e w6 ⟨⟨b, rfl⟩, hb6⟩)
        · have hB6 : Below wr.heap.size wr w6 := ((Below.refl _ wr).alloc (Nat.le_refl _) _).trans (hb6.mono (by simp))
          have HB6 : Hid (Bk w6 B rb kb E3 g3 t0 t1 st v3 f3) := hBk.out.later hB6
          have HT6 : Hid (w6.ownsRow w.heap.size 9 1 (.slice (some ⟨gt, 0, none⟩) Tw.length ct) Tw.length (strs Tw)) := ownsRow_block hTr.out (fun q hq => hB6.block q (hTr.out.lt q hq).2)
          have HM6 : Hid (w6.ownsRow wc.heap.size 31 3 u6 Mv'.length (flat (Lf Mv'))) := ownsRow_block hMr.out.1 (fun q hq => hB6.block q (hMr.out.1.lt q hq).2)
          have x0 : w6.cell? ⟨wr.heap.size, 0, none⟩ = some (.string (nm a)) := (hb6.cell (p := ⟨wr.heap.size, 0, none⟩) (by simp)).trans (by rw [World.cell?_alloc_at _ _ _ _ rfl]; rfl)
          have hsz6 : wr.heap.size < w6.heap.size := by have := hb6.size; simp at this; omega
          have hrb6 : rb < w6.heap.size := by have := HS5.out.turned.size; have := hSt.out.turned.size; omega
          have r1 : w6.cell? ⟨rb, 1, none⟩ = some (.map (some kb)) := Ros.c1 HB6.out.ros
          have hgne : g3 a ≠ [] := by
            obtain ⟨y, hy⟩ := hin3
            intro e
            have := (HB6.out.con.gmem ha0 ha6).2 hy
            rw [e] at this; simp at this
          obtain ⟨y, ys, hys⟩ : ∃ y ys, g3 a = y :: ys := by
            cases hh : g3 a with
            | nil => exact absurd hh hgne
            | cons y ys => exact ⟨y, ys, rfl⟩
          have hyE : (a, y) ∈ E3 := (HB6.out.con.gmem ha0 ha6).1 (by rw [hys]; simp)
          have hyl : y < E3.length := by
            have : y ∈ E3.map (·.2) := List.mem_map.2 ⟨_, hyE, rfl⟩
            exact List.mem_range.1 (HR5.out.lab.mem_iff.1 this)
          have hG : Gf g3 (nm a) = (g3 a).map lbl := Gf_nm g3 ha0 ha6
          obtain ⟨v0, hf⟩ : ∃ v0, f3 (nm a) = some v0 := by
            have := HB6.out.ros.keys (nm a)
            rw [hG, hys] at this
            exact Option.isSome_iff_exists.1 this
          have hrow := HB6.out.ros.rows (nm a)
          rw [hG, hf, hys] at hrow
          have hrow0 : w6.ownsRow B 28 2 v0 ((y :: ys).map lbl).length (flat2 ((y :: ys).map lbl)) := hrow
          obtain ⟨g0, c0, hv0, _, hg0⟩ := hrow0.form (by simp)
          subst hv0
          have z0 : w6.cell? ⟨g0, 0, none⟩ = some (.int .u64 (lb y)) := (hrow0.cellAt 0 (by simp; try omega)).trans rfl
          have z1 : w6.cell? ⟨g0, 1, none⟩ = some (.int .u8 (ln y)) := (hrow0.cellAt 1 (by simp; omega)).trans rfl
          have hll : ((y :: ys).map lbl).length = ys.length + 1 := by simp
          rw [hll] at hf
          have hlk : ∀ wx, Below w6.heap.size w6 wx → (Instr.lookup 63 (.map (some kb)) (.string (nm a)) false).run Ybaz.prog wx = .ok (.slice (some ⟨g0, 0, none⟩) (ys.length + 1) c0) wx := fun wx hb => by
            have := look63 (HB6.out.ros.map.of_block (hb.block _ HB6.out.ros.map.lt)) (nm a) (nm_size a)
            rw [hf] at this
            exact this
          have hk0 := hlk w6.drew (Below.refl _ _).drew
          have hk1 := fun o => hlk (w6.alloc o).drew ((Below.refl _ _).alloc (Nat.le_refl _) o).drew
          have hal : ∀ b o ob, b < w6.heap.size → (w6.alloc ob).cell? ⟨b, o, none⟩ = w6.cell? ⟨b, o, none⟩ := fun b o ob hb => World.cell?_alloc_past _ _ _ hb
          have x0a : ∀ ob, (w6.alloc ob).cell? ⟨wr.heap.size, 0, none⟩ = some (.string (nm a)) := fun ob => (hal _ _ _ hsz6).trans x0
          have r1a : ∀ ob, (w6.alloc ob).cell? ⟨rb, 1, none⟩ = some (.map (some kb)) := fun ob => (hal _ _ _ hrb6).trans r1
          have z0a : ∀ ob, (w6.alloc ob).cell? ⟨g0, 0, none⟩ = some (.int .u64 (lb y)) := fun ob => (hal _ _ _ hg0).trans z0
          have z1a : ∀ ob, (w6.alloc ob).cell? ⟨g0, 1, none⟩ = some (.int .u8 (ln y)) := fun ob => (hal _ _ _ hg0).trans z1
          have i3 : (0 : Int) < ((ys.length + 1 : Nat) : Int) := by omega
          have hnew : ∀ ob, (w6.alloc ob).heap[w6.heap.size]? = some ob := fun ob => heap_alloc_new w6 ob
          have hMne : ∀ q, u6.ownBlock = some q → wc.heap.size ≤ q ∧ q < wr.heap.size := fun q hq => hMr.out.1.lt q hq
          have HG0 : Hid (u6.ownBlock ≠ some g0) := fun e => hMr.out.2.1 g0 e (.inr ⟨nm a, by rw [hf]; rfl⟩)
          clear hlk hal hrow hrow0 hG hgne hll
          go_wp2_with fail
          go_region_held3 (fun w' => w'.cell? ⟨wr.heap.size, 0, none⟩ = some (.string (nm a)) ∧ w'.cell? ⟨rb, 1, none⟩ = some (.map (some kb)) ∧ w'.cell? ⟨g0, 0, none⟩ = some (.int .u64 (lb y)) ∧ w'.cell? ⟨g0, 1, none⟩ = some (.int .u8 (ln y)))
            (first | exact ⟨p0, p1, p2, p3⟩ | exact ⟨x0a _, r1a _, z0a _, z1a _⟩ | exact ⟨x0, r1, z0, z1⟩ | go_keep)
            ((refine step_append_lies _ (by rfl) _ _ _ (by rfl) wc.heap.size 31 l0 _ 3 32 Ybaz.underlying32 hl0 hlz0 hlz1 hlz2 rfl (by omega) u6 Mv'.length (flat (Lf Mv')) (by rfl) ((HM6.out.alloc _).drew)
                ⟨w6.heap.size, 0, none⟩ 1 1 [.string (nm a), .int .u64 (lb y), .int .u8 (ln y)] (by rfl) (by rfl) (World.news_of_block (cs := #[.string (nm a), .int .u64 (lb y), .int .u8 (ln y)]) (t := 31) (fr := (0, 0)) (hnew _)) (by simp [Value.oneCell'])
                (by omega) (by unfold maxLen; omega) (by omega) (by simp; omega) (w6.heap.size + 1) (by simp) ?_; intro gm cm w7 hown7 hgrow7 hat7 hlt7
              have p0 : w7.cell? ⟨wr.heap.size, 0, none⟩ = some (.string (nm a)) := hgrow7.cell (x0a _) (fun e => by have := hMne wr.heap.size e.symm; omega)
              have p1 : w7.cell? ⟨rb, 1, none⟩ = some (.map (some kb)) := hgrow7.cell (r1a _) (fun e => by have := hMne rb e.symm; omega)
              have p2 : w7.cell? ⟨g0, 0, none⟩ = some (.int .u64 (lb y)) := hgrow7.cell (z0a _) (Ne.symm HG0.out)
              have p3 : w7.cell? ⟨g0, 1, none⟩ = some (.int .u8 (ln y)) := hgrow7.cell (z1a _) (Ne.symm HG0.out)))
          all_goals (
            go_wp2
            have hk7 : ∀ q, q < w6.heap.size → u6.ownBlock ≠ some q → w7.heap[q]? = w6.heap[q]? := fun q hq hne => (hgrow7.block q (by simp; omega) (Ne.symm hne)).trans (Below.heap_alloc _ _ _ hq)
            have hsz7 : w6.heap.size ≤ w7.heap.size := by have := hgrow7.size; simp at this; omega
            have hbel7 : Below w.heap.size w6 w7 := ⟨hgrow7.os, hgrow7.tape, hgrow7.output, hsz7, fun q hq => hk7 q (by omega) (fun e => by have := hMne q e; omega)⟩
            go_roundw
            case rel =>
              refine ⟨k + 1, Mv' ++ [(a, y)], by omega, by go_num, by simp; omega, by omega, ?_, ?_, ?_, ?_, ?_, ?_⟩
              · exact ⟨HB6.out.con, HB6.out.up, HB6.out.len, Ros.keep HB6.out.ros hsz7 (fun q hq hs => hk7 q hq (fun e => by
                  rcases hs with hs | hs | hs
                  · have := hMne q e; omega
                  · have := hMne q e; omega
                  · exact hMr.out.2.1 q e hs))⟩
              · exact Step.then_below (hSt.out.trans (Step.of_below hB6)) hbel7
              · exact ownsRow_block HT6.out (fun q hq => hk7 q (HT6.out.lt q hq).2 (fun e => by
                  have h1 := (hMne q e).1
                  have h2 := HT5.out.2 q hq
                  omega))
              · have e1 : flat (Lf (Mv' ++ [(a, y)])) = flat (Lf Mv') ++ [.string (nm a), .int .u64 (lb y), .int .u8 (ln y)] := by rw [Lf_append, flat_append]; rfl
                rw [e1, List.length_append]
                exact hown7
              · intro q hq hs
                have hq' : gm = q := by simpa [Value.ownBlock] using hq
                rcases hat7 with e | e
                · exact hMr.out.2.1 q (by rw [← hq']; exact e) hs
                · have := (Ros.own_lt HB6.out.ros hs).2; omega
              · intro q hq
                rcases List.mem_append.1 hq with hq | hq
                · exact hMr.out.2.2 q hq
                · rw [List.mem_singleton.1 hq]; exact hyl
            case measure => simp [intOf]; omega)
        · have hB6 : Below wr.heap.size wr w6 := ((Below.refl _ wr).alloc (Nat.le_refl _) _).trans (hb6.mono (by simp))
          exact ⟨⟨k + 1, Mv', by omega, by go_num, by omega, by have := hB6.size; omega, hBk.out.later hB6, hSt.out.trans (Step.of_below hB6), ownsRow_block hTr.out (fun q hq => hB6.block q (hTr.out.lt q hq).2), ⟨ownsRow_block hMr.out.1 (fun q hq => hB6.block q (hMr.out.1.lt q hq).2), hMr.out.2.1, hMr.out.2.2⟩⟩, by simp [intOf]; omega⟩
      · go_wp2
        go_ret
        exact ⟨u6, Mv', E3, g3, v3, f3, rfl, hBk.out, hSt.out, HR5.out, by
          obtain ⟨hl, h | ⟨g9, c9, cur, e1, e2, e3⟩⟩ := hMr.out.1
          · exact ⟨hl, .inl h⟩
          · exact ⟨hl, .inr ⟨g9, c9, cur, e1, by omega, e3⟩⟩, hMr.out.2.1, hMr.out.2.2, by omega⟩
end Go.Proofs.YbulkclxkGreat.rep
