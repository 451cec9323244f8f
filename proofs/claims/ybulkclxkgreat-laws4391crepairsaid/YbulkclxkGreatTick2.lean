import Derived.Test.YbulkclxkGreatMend2
import Derived.Test.YbulkclxkGreatTick
import Derived.Test.YbulkclxkGreatNext
namespace Go.Proofs.YbulkclxkGreat.rep
open Go.ChangeShapes Go.WideShapes Go.ChangeAt Go.RowKit
open lab ring maps sup put hold order del srt read
set_option linter.unusedVariables false

theorem wpList_append_run {w w' : World} {ops : Array Oper} {rest : List Oper} {o : Oper} {a : Act} {Q : Exit → Act → World → Prop} (hg : o.guard = none) (s x : Operand) (t : TypeId) (hop : o.op = Op.call { callee := Callee.builtin Builtin.append, args := #[s, x], argTypes := #[t, t] })
    (v u r : Value) (hs : a.eval s = v) (hx : a.eval x = u) (hrun : ∀ ty, (Builtin.append_ #[t, t] ty #[v, u]).run Ybaz.prog w = .ok r w') (hK : wpList Ybaz.prog ops Q rest (a.put o.dst r) w') :
    wpList Ybaz.prog ops Q (o :: rest) a w := by
  refine wpList_plain hg fun K' hK' => ?_
  unfold Oper.wp execOp
  simp only [hop, resolve, invoke, builtin, Sem.run_bind, Sem.run_pure, Result.andThen_ok, List.map_toArray, List.map_cons, List.map_nil, hs, hx, hrun]
  exact hK' _ _ hK

theorem one_envs (E : List (Nat × Nat)) (topic : ByteArray) (start : Int) (O : List Nat) : ∀ u ∈ envs E topic start O, u.oneCell' = true := by
  induction O with
  | nil => simp [envs]
  | cons i O ih =>
    intro u hu
    rw [show (i :: O) = [i] ++ O from rfl, envs_append] at hu
    rcases List.mem_append.1 hu with hu | hu
    · simp [envs, env] at hu
      rcases hu with rfl | rfl <;> rfl
    · exact ih u hu

/-- 'append(nil, xs...)': a new row, or nil. -/
theorem run_append_fresh {w : World} {B n : Nat} {v : Value} {xs : List Value} (hown : w.ownsRow B 39 2 v n xs) (h1 : ∀ u ∈ xs, u.oneCell' = true) (hn : n ≤ 1000) :
    ∃ r w', (∀ ty, (Builtin.append_ #[34, 34] ty #[.slice none 0 0, v]).run Ybaz.prog w = .ok r w') ∧ w'.ownsRow w.heap.size 39 2 r n xs ∧ w.grownBy w' none ∧ ∃ ao c, r = .slice ao n c := by
  obtain ⟨i0, hi0, hz0, hzs, hzb⟩ := info_parts tick.info39
  have ht : Ybaz.prog.underlying 34 = some (.slice 39) := Ybaz.underlying34
  rcases Nat.eq_zero_or_pos n with rfl | hp
  · have hx : xs = [] := List.eq_nil_of_length_eq_zero (by have := hown.1; simpa using this)
    subst hx
    refine ⟨.slice none 0 0, w, fun ty => ?_, ⟨rfl, .inl ⟨rfl, rfl⟩⟩, ⟨rfl, rfl, rfl, Nat.le_refl _, fun _ _ _ => rfl⟩, none, 0, rfl⟩
    obtain ⟨_, ⟨rfl, _⟩ | ⟨g, c, cur, rfl, _⟩⟩ := hown
    · simp [Builtin.append_, run_underlying ht, sizeOf, typeInfo, hi0, Builtin.lenOf, Builtin.firstCells]
    · simp [Builtin.append_, run_underlying ht, sizeOf, typeInfo, hi0, Builtin.lenOf, Builtin.firstCells, loadCells, loadCellsFrom]
  · obtain ⟨g, c, rfl, _, hg⟩ := hown.form hp
    obtain ⟨g', cap, w', hr, h2, h3, h4, h5⟩ := run_append_lies (P := Ybaz.prog) w 34 0 w.heap.size 39 i0 _ 2 32 ht hi0 hz0 hzs hzb rfl (by decide) (.slice none 0 0) 0 [] ⟨rfl, .inl ⟨rfl, rfl⟩⟩ ⟨g, 0, none⟩ n c xs hown.1 (fun j u hj => by
      have e : ((⟨g, 0, none⟩ : Addr).add j) = ⟨g, j, none⟩ := by
        simp [Addr.add]
        exact fun h => h.symm
      rw [e]
      have hjl := (List.getElem?_eq_some_iff.1 hj).1
      rw [hown.cellAt j (by have := hown.1; omega)]; exact hj) h1 hp (by unfold maxLen; omega) (by omega) (Nat.le_refl _) w.heap.size rfl
    rw [Nat.zero_add] at hr h2
    rw [List.nil_append] at h2
    exact ⟨_, w', fun ty => hr, h2, h3, _, _, rfl⟩

/-- No topic is held. -/
structure Gone (W w : World) (sb tb : Nat) (start : Int) : Prop where
  bel : Below W.heap.size W w
  sblk : w.heap[sb]? = some (.cells #[.map (some tb), .int .u64 start] 55 (0, 0))
  tmap : ∃ F, MapAt w tb F 0 ∧ ∀ y, F y = none

theorem Step.turn {rb kb : Nat} {w w' : World} {v v' : Value} {f f' : ByteArray → Option Value} {B n : Nat} {L : List Pr} {G : ByteArray → List (Int × Int)} {t0 t1 st : Int} (h : Step rb kb w v f w' v' f') (hr : Ros w B rb kb L n G t0 t1 st v f) : Turned (fun j => j = rb ∨ j = kb ∨ B ≤ j) w w' :=
  h.turned.mono (fun k _ hs => by
    rcases hs with e | e | e
    · exact .inl e
    · exact .inr (.inl e)
    · exact .inr (.inr (Ros.own_lt hr e).1))

/-- What Tick leaves and sends. -/
def Ticked (W : World) (sb tb rb kb B : Nat) (topic : ByteArray) (start : Int) (E : List (Nat × Nat)) (base : Nat) (o : Value) (w' : World) : Prop :=
  (∃ ao c, o = .slice ao 0 c ∧ Gone W w' sb tb start ∧ ∀ a, 0 < a → ∀ x, (a, x) ∉ E) ∨
  (∃ go co O E' g' v' f' t0 t1, o = .slice (some ⟨go, 0, none⟩) (O.length + 1) co ∧ 0 < E'.length ∧ St W w' sb tb rb kb B topic start (Lf E') (cnt g') (Gf g') t0 t1 ∧ Bk w' B rb kb E' g' t0 t1 start v' f' ∧ Rep E E' ∧
    w'.ownsRow base 39 2 o (O.length + 1) (envs E' topic start O ++ env E' topic start 0 true) ∧ (∀ i ∈ O, i < E'.length) ∧ O.length ≤ 1000)

set_option maxRecDepth 100000 in
set_option maxHeartbeats 4000000 in
theorem tick_bk {W w : World} {sb tb rb kb B : Nat} {topic : ByteArray} {start : Int} {E : List (Nat × Nat)} {g : Nat → List Nat} {v : Value} {f : ByteArray → Option Value} (ht : topic.size ≤ maxLen)
    (h : St W w sb tb rb kb B topic start (Lf E) (cnt g) (Gf g) 0 0) (hb : Bk w B rb kb E g 0 0 start v f) :
    Calls Ybaz.prog 10 #[.pointer (some ⟨sb, 0, none⟩), .pointer none] w fun e w' => ∃ o, e = .returned o ∧ Ticked W sb tb rb kb B topic start E w.heap.size o w' ∧ ∀ q, q < w.heap.size → q ≠ rb → q ≠ kb → q ≠ tb → ¬ Own v f q → w'.heap[q]? = w.heap[q]? := by
  obtain ⟨i0, hi0, hz0, hzs, hzb⟩ := info_parts tick.info39
  have hz := h.szW
  have HT : Hid (Calls Ybaz.prog 19 #[.pointer (some ⟨sb, 0, none⟩)] w fun e w' => ∃ g c, e = .returned (.slice (some ⟨g, 0, none⟩) 1 c) ∧ w'.cell? ⟨g, 0, none⟩ = some (.string topic) ∧ w.heap.size ≤ g ∧ g < w'.heap.size ∧ Below w.heap.size w w') := tick.topics_one W sb tb rb kb B _ topic start (Lf E) (Gf g) 0 0 w ht h
  have HS : Hid (St W w sb tb rb kb B topic start (Lf E) (cnt g) (Gf g) 0 0) := h
  have HB : Hid (Bk w B rb kb E g 0 0 start v f) := hb
  have HMd : Hid (∀ wx, Below w.heap.size w wx → Calls Ybaz.prog 20 #[.pointer (some ⟨rb, 0, none⟩), .string topic] wx fun e w' => ∃ ov O E' g' v' f', e = .returned ov ∧ Bk w' B rb kb E' g' 0 0 start v' f' ∧ Step rb kb wx v f w' v' f' ∧ Rep E E' ∧
      w'.ownsRow wx.heap.size 39 2 ov O.length (envs E' topic start O) ∧ (∀ j, ov.ownBlock = some j → ¬ Own v' f' j) ∧ (∀ i ∈ O, i < E'.length) ∧ O.length ≤ 1000) := fun wx hbx => mend_bk (hb.later hbx) topic
  clear h hb
  go_enter Ybaz.func10, Ybaz.ntmps10
  go_wp2_with (first
    | (go_at_call 19; refine HT.out.mono ?_; rintro e w1 ⟨gt, ct, rfl, htc, hgt1, hgt2, hb1⟩
       have s0 : w1.cell? ⟨sb, 0, none⟩ = some (.map (some tb)) := by simp [World.cell?, (HS.out.later hb1).sblk]
       have hl1 : (Instr.lookup 53 (.map (some tb)) (.string topic) false).run Ybaz.prog w1 = .ok (.pointer (some ⟨rb, 0, none⟩)) w1 := by
         rw [(HS.out.later hb1).tmap.lookup Ybaz.underlying53 (z := .pointer none) (by kernel_rfl) topic ht]; simp))
  refine wp_loop_rounds 2 ?_
  rw [rounds_succ]
  go_upto_if 33 with (first
    | (go_at_call 20; refine (HMd.out w1 hb1).mono ?_; rintro e w2 ⟨ov, O, E', g', v', f', rfl, hbk2, hst2, hrep2, hown2, hsep2, hOi2, hOl⟩
       obtain ⟨r1, w3, hrun3, hown3, hgr3, ao3, c3, rfl⟩ := run_append_fresh hown2 (one_envs _ _ _ _) hOl
       have HB2 : Hid (Bk w2 B rb kb E' g' 0 0 start v' f') := hbk2
       have HS2 : Hid (Step rb kb w1 v f w2 v' f') := hst2
       have HR2 : Hid (Rep E E') := hrep2
       have HOi : Hid (∀ i ∈ O, i < E'.length) := hOi2
       have HO3 : Hid (w3.ownsRow w2.heap.size 39 2 (.slice ao3 O.length c3) O.length (envs E' topic start O)) := hown3
       have Hrun3 : Hid (∀ ty, (Builtin.append_ #[34, 34] ty #[.slice none 0 0, ov]).run Ybaz.prog w2 = .ok (.slice ao3 O.length c3) w3) := hrun3
       have hb3 : Below w2.heap.size w2 w3 := ⟨hgr3.os, hgr3.tape, hgr3.output, hgr3.size, fun k hk => hgr3.block k hk (by simp)⟩
       have HB3 : Hid (Bk w3 B rb kb E' g' 0 0 start v' f') := hbk2.later hb3
       have hform : ∃ ao c, v' = .slice ao E'.length c := Bk.form hbk2
       obtain ⟨aor, cr, rfl⟩ := hform
       have e0 : w3.cell? ⟨rb, 0, none⟩ = some (.slice aor E'.length cr) := Ros.c0 HB3.out.ros
       clear hbk2 hst2 hrep2 hown2 hsep2 hOi2 hown3 hrun3)
    | (at_builtin; refine wpList_append_run rfl (.tmp 23) (.tmp 26) 34 rfl _ _ _ rfl rfl Hrun3.out ?_))
  have hw1 := hb1.size
  have hT2 : Turned (fun j => j = rb ∨ j = kb ∨ B ≤ j) w1 w2 := Step.turn HS2.out (HB.out.later hb1).ros
  have hSt3 : St W w3 sb tb rb kb B topic start (Lf E') (cnt g') (Gf g') 0 0 := ((HS.out.later hb1).turn ⟨_, _, HB2.out.ros⟩ hT2).later hb3
  have HS3 : Hid (St W w3 sb tb rb kb B topic start (Lf E') (cnt g') (Gf g') 0 0) := hSt3
  have t0c : w3.cell? ⟨sb, 0, none⟩ = some (.map (some tb)) := by simp [World.cell?, hSt3.sblk]
  have hsz2 : w1.heap.size ≤ w2.heap.size := HS2.out.turned.size
  have hsz3 := hb3.size
  have hfar3 : Hid (∀ q, q < w.heap.size → q ≠ rb → q ≠ kb → ¬ Own v f q → w3.heap[q]? = w.heap[q]?) := fun q h1 h2 h3 h4 => (hb3.block q (by omega)).trans ((HS2.out.keeps (by omega) h2 h3 h4).trans (hb1.block q h1))
  by_cases hE : E'.length = 0
  · obtain ⟨w4, hrun0, hm4, hg4, hs4⟩ := hSt3.tmap.delete Ybaz.underlying53 topic ht 0
    have hrun4 : ∀ ty, (Builtin.delete_ #[53, 9] ty #[.map (some tb), .string topic]).run Ybaz.prog w3 = .ok (.tuple #[]) w4 := fun ty => hrun0
    have hO0 : O = [] := by
      cases O with
      | nil => rfl
      | cons i O => have := HOi.out i (by simp); omega
    subst hO0
    have hz0' : ((E'.length : Int) == 0) = true := by rw [hE]; rfl
    have HM4 : Hid (∃ F, MapAt w4 tb F 0 ∧ ∀ y, F y = none) := ⟨_, by simpa using hm4, fun y => by by_cases hy : y = topic <;> simp [hy]⟩
    have hgone : Hid (Gone W w4 sb tb start) := ⟨hSt3.bel.trans ⟨hg4.os, hg4.tape, hg4.output, by omega, fun k hk => hg4.block k (by have := hSt3.szW; omega) (by have := hSt3.hs; simp; omega)⟩, (hg4.block sb hSt3.szW.2.1 (by simp; intro e; have := hSt3.sblk; obtain ⟨es, cl, hbk⟩ := hSt3.tmap.isMapBlock; rw [← e, this] at hbk; simp at hbk)).trans hSt3.sblk, HM4.out⟩
    clear hSt3 hrun0 hm4
    go_wp2
    rw [rounds_succ]
    go_wp2
    go_ret
    refine ⟨_, rfl, .inl ⟨_, _, rfl, hgone.out, fun a ha x hx => ?_⟩, fun q h1 h2 h3 h5 h4 => (hg4.block q (by omega) (by simpa using h5)).trans (hfar3.out q h1 h2 h3 h4)⟩
    obtain ⟨y, hy⟩ := (HR2.out.names a ha).1 ⟨x, hx⟩
    have := List.length_pos_of_mem hy
    omega
  · have hz0' : ((E'.length : Int) == 0) = false := by rw [beq_eq_false_iff_ne]; omega
    have hpos : 0 < E'.length := by omega
    have hL3 := HB3.out.ros.own
    rw [Lf_length] at hL3
    obtain ⟨gr, cr', hre, _, _⟩ := hL3.form hpos
    obtain ⟨rfl, rfl⟩ : aor = some ⟨gr, 0, none⟩ ∧ cr = cr' := by
      simp only [Value.slice.injEq] at hre
      exact ⟨hre.1, hre.2.2⟩
    clear hre hL3
    have e2 : w3.cell? ⟨rb, 2, none⟩ = some (.int .u64 0) := by simp [World.cell?, HB3.out.ros.blk]
    have e3 : w3.cell? ⟨rb, 3, none⟩ = some (.int .u8 0) := by simp [World.cell?, HB3.out.ros.blk]
    have HN21 : Hid (Calls Ybaz.prog 21 #[.pointer (some ⟨rb, 0, none⟩), .agg #[.int .u64 0, .int .u8 0]] w3 fun e w' => e = .returned (.int .i64 0) ∧ Below w3.heap.size w3 w') := next_none rb w3 (fun wy => (labelNone 0 0 wy).mono fun e w' h => ⟨h.1, h.2 ▸ (Below.refl _ _).alloc (Nat.le_refl _) _⟩)
    have HNm : Hid (Nmd E') := HR2.out.nmd HB3.out.con
    have h4l : E'.length ≤ 400 := HB3.out.len
    have HLf : Hid ((Lf E').length = E'.length) := Lf_length E'
    clear hSt3
    go_wp2_with (first
      | (go_at_call 21; refine HN21.out.mono ?_; rintro e w4 ⟨rfl, hb4⟩
         have HB4 : Hid (Bk w4 B rb kb E' g' 0 0 start (.slice (some ⟨gr, 0, none⟩) E'.length cr) f') := HB3.out.later hb4
         have hown4 : w4.ownsRow B 31 3 (.slice (some ⟨gr, 0, none⟩) E'.length cr) E'.length (flat (Lf E')) := by have := HB4.out.ros.own; rwa [Lf_length] at this
         have f0 : w4.cell? ⟨rb, 0, none⟩ = some (.slice (some ⟨gr, 0, none⟩) E'.length cr) := Ros.c0 HB4.out.ros
         have f2 : w4.cell? ⟨rb, 2, none⟩ = some (.int .u64 0) := by simp [World.cell?, HB4.out.ros.blk]
         have f3 : w4.cell? ⟨rb, 3, none⟩ = some (.int .u8 0) := by simp [World.cell?, HB4.out.ros.blk]
         have z2 : w4.frozen? ⟨rb, 2, none⟩ = false := by simp [World.frozen?, HB4.out.ros.blk]
         have z3 : w4.frozen? ⟨rb, 3, none⟩ = false := by simp [World.frozen?, HB4.out.ros.blk]
         have x1 : w4.cell? ⟨gr, 1, none⟩ = some (.int .u64 (nth (Lf E') 0).b) := (hown4.cellAt 1 (by omega)).trans (flat_at (Lf E') 0 (by rw [Lf_length]; exact hpos)).2.1
         have x2 : w4.cell? ⟨gr, 2, none⟩ = some (.int .u8 (nth (Lf E') 0).n) := (hown4.cellAt 2 (by omega)).trans (flat_at (Lf E') 0 (by rw [Lf_length]; exact hpos)).2.2
         obtain ⟨hr5, ht5⟩ := tick.Ros.setTurn (x := (nth (Lf E') 0).b) (y := (nth (Lf E') 0).n) HB4.out.ros
         have HR5 : Hid (Ros ((w4.setCell ⟨rb, 2, none⟩ (.int .u64 (nth (Lf E') 0).b)).setCell ⟨rb, 3, none⟩ (.int .u8 (nth (Lf E') 0).n)) B rb kb (Lf E') (cnt g') (Gf g') (nth (Lf E') 0).b (nth (Lf E') 0).n start (.slice (some ⟨gr, 0, none⟩) E'.length cr) f') := hr5
         have HC5 := cfg_ros hr5 HNm.out h4l topic true 0 hpos
         have HC5' : Hid (Calls Ybaz.prog 22 #[.pointer (some ⟨rb, 0, none⟩), .string topic, .int .i64 0, .bool true] ((w4.setCell ⟨rb, 2, none⟩ (.int .u64 (nth (Lf E') 0).b)).setCell ⟨rb, 3, none⟩ (.int .u8 (nth (Lf E') 0).n)) fun e w' => e = .returned (.agg #[.string (nth (Lf E') 0).a, .iface 41 (.agg (cfgE E' topic start 0 true))]) ∧ Below ((w4.setCell ⟨rb, 2, none⟩ (.int .u64 (nth (Lf E') 0).b)).setCell ⟨rb, 3, none⟩ (.int .u8 (nth (Lf E') 0).n)).heap.size ((w4.setCell ⟨rb, 2, none⟩ (.int .u64 (nth (Lf E') 0).b)).setCell ⟨rb, 3, none⟩ (.int .u8 (nth (Lf E') 0).n)) w') := HC5
         have i1 : (0 : Int) < (E'.length : Int) := by omega
         clear hr5 HC5 hown4)
      | (go_at_call 22; refine HC5'.out.mono ?_; rintro e w6 ⟨rfl, hb6⟩
         have hsz56 : w4.heap.size ≤ w6.heap.size := Nat.le_trans ht5.size hb6.size
         have hk6 : ∀ q, q < w4.heap.size → q ≠ rb → w6.heap[q]? = w4.heap[q]? := fun q hq hne => (hb6.block q (Nat.lt_of_lt_of_le hq ht5.size)).trans (ht5.block q hq hne)
         have HO6 : Hid (w6.ownsRow w2.heap.size 39 2 (.slice ao3 O.length c3) O.length (envs E' topic start O)) := ownsRow_block HO3.out (fun q hq => (hk6 q (by have := (HO3.out.lt q hq).2; have := hb4.size; omega) (by have := (HO3.out.lt q hq).1; omega)).trans (hb4.block q (HO3.out.lt q hq).2)))
      | (at_builtin; refine wpList_append_lies _ rfl (.tmp 56) (.tmp 61) 34 rfl w2.heap.size 39 i0 _ 2 32 Ybaz.underlying34 hi0 hz0 hzs hzb rfl (by decide) (.slice ao3 O.length c3) O.length (envs E' topic start O) rfl (HO6.out.alloc _) ⟨w6.heap.size, 0, none⟩ 1 1 [.string (nth (Lf E') 0).a, .iface 41 (.agg (cfgE E' topic start 0 true))] rfl rfl (World.news_of_block (cs := #[.string (nth (Lf E') 0).a, .iface 41 (.agg (cfgE E' topic start 0 true))]) (t := 39) (fr := (0, 0)) (heap_alloc_new _ _)) (by simp [Value.oneCell']) (by omega) (by unfold maxLen; omega) (by omega) (by simp; have := hb4.size; omega) (w6.heap.size + 1) (by simp) ?_; intro go co w7 hown7 hgrow7 hat7 hlt7))
    rw [rounds_succ]
    go_wp2
    go_ret
    have hn7 : ∀ q, (Value.slice ao3 O.length c3).ownBlock = some q → w2.heap.size ≤ q := fun q hq => (HO3.out.lt q hq).1
    have hsz4 := hb4.size
    have hk7 : ∀ q, q < w6.heap.size → (Value.slice ao3 O.length c3).ownBlock ≠ some q → w7.heap[q]? = w6.heap[q]? := fun q hq hne => (hgrow7.block q (by simp; omega) (Ne.symm hne)).trans (Below.heap_alloc _ _ _ hq)
    have hsz7 : w6.heap.size ≤ w7.heap.size := by have := hgrow7.size; simp at this; omega
    have hOwnlt : ∀ j, Own (.slice (some ⟨gr, 0, none⟩) E'.length cr) f' j → j < w2.heap.size := fun j hj => (Ros.own_lt HB2.out.ros hj).2
    have hR6 := HR5.out.later hb6
    have hR7 := Ros.keep hR6 hsz7 (fun q hq hs => hk7 q hq (fun e => by
      have h1 := hn7 q e
      rcases hs with hs | hs | hs
      · omega
      · omega
      · have := hOwnlt q hs; omega))
    have hT37 : Turned (fun j => j = rb ∨ j = kb ∨ B ≤ j) w3 w7 := by
      refine ⟨?_, ?_, ?_, by omega, fun q hq hn => ?_⟩
      · exact hgrow7.os.trans (hb6.os.trans (ht5.os.trans hb4.os))
      · exact hgrow7.tape.trans (hb6.tape.trans (ht5.tape.trans hb4.tape))
      · exact hgrow7.output.trans (hb6.output.trans (ht5.output.trans hb4.output))
      · have hBw : B ≤ w2.heap.size := HB2.out.ros.hB
        exact (hk7 q (by omega) (fun e => hn (.inr (.inr (by have := hn7 q e; omega))))).trans ((hk6 q (by omega) (fun e => hn (.inl e))).trans (hb4.block q hq))
    refine ⟨_, rfl, .inr ⟨go, co, O, E', g', _, f', _, _, rfl, hpos, HS3.out.turn ⟨_, _, hR7⟩ hT37, ⟨HB3.out.con, HB3.out.up, HB3.out.len, hR7⟩, HR2.out, ?_, HOi.out, hOl⟩, fun q h1 h2 h3 h5 h4 => (hk7 q (by omega) (fun e => by have := hn7 q e; omega)).trans ((hk6 q (by omega) h2).trans ((hb4.block q (by omega)).trans (hfar3.out q h1 h2 h3 h4)))⟩
    obtain ⟨hl, h | ⟨g9, c9, cur, e1, e2', e3'⟩⟩ := hown7
    · exact ⟨hl, .inl h⟩
    · exact ⟨hl, .inr ⟨g9, c9, cur, e1, by omega, e3'⟩⟩
end Go.Proofs.YbulkclxkGreat.rep
