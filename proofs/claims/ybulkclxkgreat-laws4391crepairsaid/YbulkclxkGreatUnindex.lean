import Derived.Test.YbulkclxkGreatDel
namespace Go.Proofs.YbulkclxkGreat.del
open Go.ChangeShapes Go.WideShapes Go.ChangeAt Go.RowKit
open lab ring maps sup put
set_option linter.unusedVariables false

/-- The blocks of a roster's rows. -/
def Own (v : Value) (f : ByteArray → Option Value) (j : Nat) : Prop := v.ownBlock = some j ∨ ∃ ad, (zr (f ad)).ownBlock = some j
/-- From one world of a roster to the next: what may have turned; its rows are its old ones or new. -/
structure Step (rb lb : Nat) (w : World) (v : Value) (f : ByteArray → Option Value) (w' : World) (v' : Value) (f' : ByteArray → Option Value) : Prop where
  turned : Turned (fun j => j = rb ∨ j = lb ∨ Own v f j) w w'
  fresh : ∀ j, Own v' f' j → Own v f j ∨ w.heap.size ≤ j
theorem Step.refl (rb lb : Nat) (w : World) (v : Value) (f : ByteArray → Option Value) : Step rb lb w v f w v f := ⟨Turned.refl _ _, fun j h => .inl h⟩
theorem Step.trans {rb lb : Nat} {w w1 w2 : World} {v v1 v2 : Value} {f f1 f2 : ByteArray → Option Value} (h : Step rb lb w v f w1 v1 f1) (k : Step rb lb w1 v1 f1 w2 v2 f2) : Step rb lb w v f w2 v2 f2 :=
  ⟨⟨k.turned.os.trans h.turned.os, k.turned.tape.trans h.turned.tape, k.turned.output.trans h.turned.output, Nat.le_trans h.turned.size k.turned.size, fun i hi hn => (k.turned.block i (Nat.lt_of_lt_of_le hi h.turned.size) (by
      rintro (e | e | e)
      · exact hn (.inl e)
      · exact hn (.inr (.inl e))
      · rcases h.fresh i e with e | e
        · exact hn (.inr (.inr e))
        · omega)).trans (h.turned.block i hi hn)⟩,
    fun j hj => by
      rcases k.fresh j hj with e | e
      · exact h.fresh j e
      · exact .inr (Nat.le_trans h.turned.size e)⟩
theorem Step.of_below {rb lb : Nat} {w w' : World} {v : Value} {f : ByteArray → Option Value} (h : Below w.heap.size w w') : Step rb lb w v f w' v f := ⟨(Turned.of_below h).mono (fun k hk hs => by omega), fun j hj => .inl hj⟩
theorem Ros.own_lt {w : World} {B rb lb n : Nat} {L : List Pr} {G : ByteArray → List (Int × Int)} {t0 t1 st : Int} {v : Value} {f : ByteArray → Option Value} (h : Ros w B rb lb L n G t0 t1 st v f) {j : Nat} (hj : Own v f j) : B ≤ j ∧ j < w.heap.size := by
  rcases hj with e | ⟨ad, e⟩
  · exact h.own.lt j e
  · exact (h.rows ad).lt j e
/-- A block that is none of the roster's stands. -/
theorem Step.keeps {rb lb : Nat} {w w' : World} {v v' : Value} {f f' : ByteArray → Option Value} (h : Step rb lb w v f w' v' f') {j : Nat} (hj : j < w.heap.size) (h1 : j ≠ rb) (h2 : j ≠ lb) (h3 : ¬ Own v f j) : w'.heap[j]? = w.heap[j]? :=
  h.turned.block j hj (by rintro (e | e | e); exact h1 e; exact h2 e; exact h3 e)

abbrev without (p : Pr) (l : List (Int × Int)) : List (Int × Int) := l.filter (fun m => !same (p.b, p.n) m)

set_option maxRecDepth 100000 in
set_option maxHeartbeats 2000000 in
/-- The labels' map behind unindex, ahead of what it means for the roster. -/
theorem unindex_any (B rb lb n : Nat) (f : ByteArray → Option Value) (M : List (Int × Int)) (v0 : Value) (p : Pr) (w : World) (ha : p.a.toList.isEmpty = false) (hs : p.a.size ≤ maxLen) (hn : n ≤ 1000) (hM : M.length ≤ 1000) (hpos : 0 < M.length) (hB : B ≤ w.heap.size)
    (hm : MapAt w lb f n) (hf : f p.a = some v0) (c1 : w.cell? ⟨rb, 1, none⟩ = some (.map (some lb))) (hown : w.ownsRow B 28 2 v0 M.length (flat2 M)) (hne : v0.ownBlock ≠ some lb) (hne' : v0.ownBlock ≠ some rb) :
    Calls Ybaz.prog 24 #[.pointer (some ⟨rb, 0, none⟩), .agg #[.string p.a, .int .u64 p.b, .int .u8 p.n]] w fun e w' => e = .returned (.tuple #[]) ∧ ∃ g k c, v0.ownBlock = some g ∧ k = (without p M).length ∧ w'.ownsRow B 28 2 (.slice (some ⟨g, 0, none⟩) k c) k (flat2 (without p M)) ∧
      MapAt w' lb (fun x => if x = p.a then (if k = 0 then none else some (.slice (some ⟨g, 0, none⟩) k c)) else f x) (if k = 0 then n - 1 else n) ∧ Turned (fun j => j = lb ∨ some j = v0.ownBlock) w w' := by
  have hrb : rb < w.heap.size := World.block_lt_of_cell? _ _ c1
  have hlb := hm.lt
  have hrl : rb ≠ lb := by
    intro e
    obtain ⟨es, cl, hbk⟩ := hm.isMapBlock
    rw [e] at c1
    simp [World.cell?, hbk] at c1
  have hv0b : ∀ g, v0.ownBlock = some g → g < w.heap.size := fun g hg => (hown.lt g hg).2
  have hl0 : ∀ o1 o2, (Instr.lookup 63 (.map (some lb)) (.string p.a) false).run Ybaz.prog ((w.alloc o1).alloc o2).drew = .ok v0 ((w.alloc o1).alloc o2).drew := fun o1 o2 => by
    have := look63 (wx := ((w.alloc o1).alloc o2).drew) (MapAt.alloc (MapAt.alloc hm _) _) p.a hs
    rw [hf] at this; exact this
  have hp2 : ∀ o1 o2, ((w.alloc o1).alloc o2).cell? ⟨rb, 1, none⟩ = some (.map (some lb)) := fun o1 o2 => by
    rw [World.cell?_alloc_past _ _ _ (by simp; omega), World.cell?_alloc_past _ _ _ hrb]; exact c1
  have hq : ∀ j o2, ((w.alloc (.cells #[.string p.a, .int .u64 p.b, .int .u8 p.n] 31)).alloc o2).cell? ⟨w.heap.size, j, none⟩ = (#[.string p.a, .int .u64 p.b, .int .u8 p.n] : Array Value)[j]? := fun j o2 => by
    rw [World.cell?_alloc_past _ _ _ (by simp), World.cell?_alloc_at _ _ _ _ rfl]
  have HD : Hid (∀ o2, Calls Ybaz.prog 34 #[v0, .func (.func 35) #[] #[.pointer (some ⟨w.heap.size, 0, none⟩)]] ((w.alloc (.cells #[.string p.a, .int .u64 p.b, .int .u8 p.n] 31)).alloc o2).drew fun e w' => ∃ g n c, e = .returned (.slice (some ⟨g, 0, none⟩) n c) ∧ n = (without p M).length ∧ w'.ownsRow B 28 2 (.slice (some ⟨g, 0, none⟩) n c) n (flat2 (without p M)) ∧ v0.ownBlock = some g ∧ ((w.alloc (.cells #[.string p.a, .int .u64 p.b, .int .u8 p.n] 31)).alloc o2).drew.grownBy w' (some g)) := fun o2 =>
    delete34 B w.heap.size v0 M p _ hM ((hown.alloc _).alloc _).drew (hq 1 o2) (hq 2 o2) (fun e => Nat.lt_irrefl _ (hv0b _ e)) hpos
  have HM : Hid (MapAt w lb f n) := hm
  clear hm hown
  go_enter Ybaz.func24, Ybaz.ntmps24
  go_upto_region 2 with (go_at_call 33; refine (peerNone p.a p.b p.n _).mono ?_; rintro e w' ⟨rfl, rfl⟩)
  go_cut [] (fun wx => ∃ g k c, v0.ownBlock = some g ∧ k = (without p M).length ∧ wx.ownsRow B 28 2 (.slice (some ⟨g, 0, none⟩) k c) k (flat2 (without p M)) ∧
      MapAt wx lb (fun x => if x = p.a then some (.slice (some ⟨g, 0, none⟩) k c) else f x) n ∧ Turned (fun j => j = lb ∨ some j = v0.ownBlock) w wx ∧ wx.cell? ⟨rb, 1, none⟩ = some (.map (some lb)) ∧ wx.cell? ⟨w.heap.size, 0, none⟩ = some (.string p.a))
  case first =>
    go_region_held3 (fun w' => w'.cell? ⟨rb, 1, none⟩ = some (.map (some lb)) ∧ w'.cell? ⟨w.heap.size, 0, none⟩ = some (.string p.a))
      (first | exact ⟨q0, q1⟩ | exact ⟨p0, p1⟩ | exact ⟨hp2 _ _, hq 0 _⟩ | go_keep)
      ((go_at_call 34; refine (HD.out _).mono ?_; rintro e w1 ⟨g, k, c, rfl, hk0, hown1, hvg, hgrow⟩
        have hk : Hid (k = (without p M).length) := hk0
        clear hk0
        have hgl : g < w.heap.size := hv0b g hvg
        have p0 : w1.cell? ⟨rb, 1, none⟩ = some (.map (some lb)) := hgrow.cell (hp2 _ _) (fun e => hne' (by rw [hvg, ← e]))
        have p1 : w1.cell? ⟨w.heap.size, 0, none⟩ = some (.string p.a) := hgrow.cell (hq 0 _) (fun e => by simp at e; omega)
        obtain ⟨w2, hup, hm2, hg2, hsz2⟩ := (MapAt.grown (MapAt.drew (MapAt.alloc (MapAt.alloc HM.out _) _)) hgrow (fun e => hne (by rw [hvg, ← e]))).store Ybaz.underlying63 (by unfold maxLen; omega) p.a hs (.slice (some ⟨g, 0, none⟩) k c)
        have q0 : w2.cell? ⟨rb, 1, none⟩ = some (.map (some lb)) := hg2.cell p0 (by simp; exact hrl)
        have q1 : w2.cell? ⟨w.heap.size, 0, none⟩ = some (.string p.a) := hg2.cell p1 (by simp; omega)))
    all_goals go_wp2_with fail
    all_goals go_meet
    all_goals (
      rw [hf] at hm2
      refine ⟨g, k, c, hvg, hk.out, hown1.kept hg2 (.inr (by simp [Value.ownBlock]; intro e; exact hne (by rw [hvg, e]))), hm2, ?_, q0, q1⟩
      exact (((((Turned.refl _ w).alloc _).alloc _).drew).trans ((Turned.of_grown hgrow).mono (fun j _ hj => .inr (by rw [hvg]; exact hj)))).trans ((Turned.of_grown hg2).mono (fun j _ hj => .inl (by simpa using hj))))
  case rest =>
    obtain ⟨g, k, c, hvg, hk0, hown2, hm2, hT, r0, r1⟩ := hcut
    have hk : Hid (k = (without p M).length) := hk0
    clear hk0
    have hl2 : ∀ j, (Instr.lookup 63 (.map (some lb)) (.string p.a) false).run Ybaz.prog (wc.drewN j) = .ok (.slice (some ⟨g, 0, none⟩) k c) (wc.drewN j) := fun j => by
      have := look63 (wx := wc.drewN j) (hm2.of_block rfl) p.a hs
      simpa using this
    have HM2 : Hid (MapAt wc lb (fun x => if x = p.a then some (.slice (some ⟨g, 0, none⟩) k c) else f x) n) := hm2
    have HO2 : Hid (wc.ownsRow B 28 2 (.slice (some ⟨g, 0, none⟩) k c) k (flat2 (without p M))) := hown2
    clear hm2 hown2
    by_cases hz : k = 0
    · have hz' : ((k : Int) == 0) = true := by simp [hz]
      go_wp2_with fail
      go_quiet (fail)
      have hmq : MapAt (wc.drewN nq) lb (fun x => if x = p.a then some (.slice (some ⟨g, 0, none⟩) k c) else f x) n := HM2.out.of_block rfl
      have hoq : (wc.drewN nq).ownsRow B 28 2 (.slice (some ⟨g, 0, none⟩) k c) k (flat2 (without p M)) := ownsRow_block HO2.out (fun _ _ => rfl)
      have hTq : Turned (fun j => j = lb ∨ some j = v0.ownBlock) w (wc.drewN nq) := ⟨hT.os, hT.tape, hT.output, hT.size, hT.block⟩
      have e0 : (wc.drewN nq).cell? ⟨rb, 1, none⟩ = some (.map (some lb)) := r0
      have e1 : (wc.drewN nq).cell? ⟨w.heap.size, 0, none⟩ = some (.string p.a) := r1
      generalize wc.drewN nq = wq at hmq hoq hTq e0 e1 ⊢
      obtain ⟨w3, hrun0, hm3, hg3, hs3⟩ := (MapAt.drew hmq).delete Ybaz.underlying63 p.a hs 0
      have hrun : ∀ ty, (Builtin.delete_ #[63, 9] ty #[.map (some lb), .string p.a]).run Ybaz.prog wq.drew = .ok (.tuple #[]) w3 := fun ty => hrun0
      have HM3 : Hid (MapAt w3 lb (fun x => if x = p.a then none else if x = p.a then some (.slice (some ⟨g, 0, none⟩) k c) else f x) (if ((fun x => if x = p.a then some (Value.slice (some ⟨g, 0, none⟩) k c) else f x) p.a).isSome then n - 1 else n)) := hm3
      have HOq : Hid (wq.ownsRow B 28 2 (.slice (some ⟨g, 0, none⟩) k c) k (flat2 (without p M))) := hoq
      clear hmq hrun0 hm3 hoq r0 r1 hl2 HM2 HO2
      go_wp2_with fail
      go_region
      all_goals (
        go_wp2
        go_end0
        refine ⟨rfl, g, k, c, hvg, hk.out, (HOq.out.drew).kept hg3 (.inr (by simp [Value.ownBlock]; intro e; exact hne (by rw [hvg, e]))), ?_, (hTq.drew).trans ((Turned.of_grown hg3).mono (fun j _ hj => .inl (by simpa using hj)))⟩
        have := HM3.out
        simp only [hz, if_true] at this ⊢
        simp only [if_true, Option.isSome_some] at this
        refine cast ?_ this
        congr 1
        funext x
        by_cases hx : x = p.a <;> simp [hx])
    · have hz' : ((k : Int) == 0) = false := by simp [hz]
      go_wp2_with fail
      go_quiet (fail)
      go_wp2
      go_end0
      refine ⟨rfl, g, k, c, hvg, hk.out, ownsRow_block HO2.out (fun _ _ => rfl), ?_, ⟨hT.os, hT.tape, hT.output, hT.size, hT.block⟩⟩
      simp only [hz, if_false]
      exact HM2.out.of_block rfl

theorem unindex_ros (B rb lb n : Nat) (L : List Pr) (G : ByteArray → List (Int × Int)) (t0 t1 st : Int) (v : Value) (f : ByteArray → Option Value) (p : Pr) (w : World) (hR : Ros w B rb lb L n G t0 t1 st v f)
    (hn : n ≤ 1000) (hG : (G p.a).length ≤ 1000) (hne : G p.a ≠ []) (ha : p.a.toList.isEmpty = false) (has : p.a.size ≤ maxLen) :
    Calls Ybaz.prog 24 #[.pointer (some ⟨rb, 0, none⟩), .agg #[.string p.a, .int .u64 p.b, .int .u8 p.n]] w fun e w' => e = .returned (.tuple #[]) ∧
      (∃ f', Ros w' B rb lb L (if (without p (G p.a)).isEmpty then n - 1 else n) (fun x => if x = p.a then without p (G x) else G x) t0 t1 st v f' ∧ Step rb lb w v f w' v f') := by
  have hB := hR.hB
  have hrb := hR.hrb
  have hlb := hR.hlb
  have hrow := hR.rows p.a
  have hsome : ∃ v0, f p.a = some v0 := by
    have := hR.keys p.a
    have hg : (G p.a).isEmpty = false := by cases h : G p.a <;> simp_all
    rw [hg] at this
    exact Option.isSome_iff_exists.1 this
  obtain ⟨v0, hf⟩ := hsome
  rw [hf] at hrow
  have hrow' : w.ownsRow B 28 2 v0 (G p.a).length (flat2 (G p.a)) := hrow
  have hpos : 0 < (G p.a).length := List.length_pos_iff.2 hne
  refine (unindex_any B rb lb n f (G p.a) v0 p w ha has hn hG hpos hB hR.map hf (by simp [World.cell?, hR.blk]) hrow'
    (fun e => by have := (hrow'.lt _ e).1; omega) (fun e => by have := (hrow'.lt _ e).1; omega)).mono ?_
  rintro e w' ⟨rfl, g, k, c, hvg, hk, hown', hm', ht⟩
  have hlr : lb ≠ rb := by
    intro e
    obtain ⟨es, cl, hbk⟩ := hR.map.isMapBlock
    rw [e, hR.blk] at hbk; simp at hbk
  have hkk : ∀ j, j < w.heap.size → j ≠ lb → v0.ownBlock ≠ some j → w'.heap[j]? = w.heap[j]? := fun j h1 h2 h3 => ht.block j h1 (by rintro (e | e); exact h2 e; exact h3 e.symm)
  have hz0 : zr (f p.a) = v0 := by rw [hf]; rfl
  generalize hf' : (fun x => if x = p.a then (if k = 0 then none else some (Value.slice (some ⟨g, 0, none⟩) k c)) else f x) = f' at hm'
  have hfa : zr (f' p.a) = if k = 0 then .slice none 0 0 else .slice (some ⟨g, 0, none⟩) k c := by
    rw [← hf']; by_cases h : k = 0 <;> simp [h, zr]
  have hfo : ∀ x, x ≠ p.a → f' x = f x := fun x hx => by rw [← hf']; simp [hx]
  have hfb : ∀ j, (zr (f' p.a)).ownBlock = some j → v0.ownBlock = some j := by
    intro j hj
    rw [hfa] at hj
    by_cases h : k = 0
    · simp [h, Value.ownBlock] at hj
    · simp [h, Value.ownBlock] at hj
      rw [hvg, hj]
  have hke : (without p (G p.a)).isEmpty = decide (k = 0) := by
    rw [hk]; cases without p (G p.a) <;> simp
  refine ⟨rfl, f', { hB := Nat.le_trans hB ht.size, hrb := hrb, hlb := hlb, own := ?_, blk := ?_, map := ?_, keys := ?_, rows := ?_, sepv := ?_, sep := ?_ }, ?_, ?_⟩
  · exact ownsRow_block hR.own (fun j hj => hkk j (hR.own.lt j hj).2 (by have := (hR.own.lt j hj).1; omega) (fun e => hR.sepv p.a j (by rw [hz0]; exact e) hj))
  · exact (hkk rb (by omega) (Ne.symm hlr) (fun e => by have := (hrow'.lt _ e).1; omega)).trans hR.blk
  · rw [hke]
    have : (if decide (k = 0) = true then n - 1 else n) = (if k = 0 then n - 1 else n) := by simp
    rw [this]; exact hm'
  · intro ad
    by_cases hx : ad = p.a
    · subst hx
      simp only [if_true]
      rw [hke, ← hf']
      by_cases h : k = 0 <;> simp [h]
    · simp only [hx, if_false]
      rw [hfo ad hx]; exact hR.keys ad
  · intro ad
    by_cases hx : ad = p.a
    · subst hx
      simp only [if_true]
      rw [hfa, ← hk]
      by_cases h : k = 0
      · have hnil : without p (G p.a) = [] := List.eq_nil_of_length_eq_zero (by rw [← hk]; exact h)
        rw [hnil]; simp only [h, if_true]
        exact ⟨rfl, .inl ⟨rfl, rfl⟩⟩
      · simp only [h, if_false]; exact hown'
    · simp only [hx, if_false]
      rw [hfo ad hx]
      exact ownsRow_block (hR.rows ad) (fun j hj => hkk j ((hR.rows ad).lt j hj).2 (by have := ((hR.rows ad).lt j hj).1; omega) (by have := hR.sep ad p.a j hx hj; rwa [hz0] at this))
  · intro ad j hj
    by_cases hx : ad = p.a
    · subst hx
      exact hR.sepv p.a j (by rw [hz0]; exact hfb j hj)
    · rw [hfo ad hx] at hj
      exact hR.sepv ad j hj
  · intro ad ad' j hne' hj
    by_cases hx : ad = p.a
    · subst hx
      rw [hfo ad' (Ne.symm hne')]
      exact hR.sep p.a ad' j hne' (by rw [hz0]; exact hfb j hj)
    · rw [hfo ad hx] at hj
      by_cases hx' : ad' = p.a
      · subst hx'
        intro e
        exact hR.sep ad p.a j hne' hj (by rw [hz0]; exact hfb j e)
      · rw [hfo ad' hx']
        exact hR.sep ad ad' j hne' hj
  · exact ht.mono (fun j _ hs => by rcases hs with e | e; exact .inr (.inl e); exact .inr (.inr (.inr ⟨p.a, by rw [hz0]; exact e.symm⟩)))
  · rintro j (e | ⟨ad, e⟩)
    · exact .inl (.inl e)
    · by_cases hx : ad = p.a
      · subst hx; exact .inl (.inr ⟨p.a, by rw [hz0]; exact hfb j e⟩)
      · rw [hfo ad hx] at e; exact .inl (.inr ⟨ad, e⟩)

theorem index_step (B rb lb n : Nat) (L : List Pr) (G : ByteArray → List (Int × Int)) (t0 t1 st : Int) (v : Value) (f : ByteArray → Option Value) (p : Pr) (w : World) (hR : Ros w B rb lb L n G t0 t1 st v f)
    (hn : n ≤ 1000) (hG : (G p.a).length ≤ 1000) (ha : p.a.toList.isEmpty = false) (has : p.a.size ≤ maxLen) :
    Calls Ybaz.prog 26 #[.pointer (some ⟨rb, 0, none⟩), .agg #[.string p.a, .int .u64 p.b, .int .u8 p.n]] w fun e w' => e = .returned (.tuple #[]) ∧
      (∃ f', Ros w' B rb lb L (if (G p.a).isEmpty then n + 1 else n) (fun x => if x = p.a then G x ++ [(p.b, p.n)] else G x) t0 t1 st v f' ∧ Step rb lb w v f w' v f') := by
  have hB := hR.hB
  have hrb := hR.hrb
  have hlb := hR.hlb
  have hrow := hR.rows p.a
  refine (index_any B rb lb n (G p.a).length f p.a p.b p.n (flat2 (G p.a)) w ha has (by omega) (by omega) hB hR.map (by simp [World.cell?, hR.blk]) hrow
    (fun e => by have := (hrow.lt _ e).1; omega) (fun e => by have := (hrow.lt _ e).1; omega)).mono ?_
  rintro e w' ⟨rfl, v', hown', hm', ht, hat⟩
  have hz0 : ((f p.a).getD (.slice none 0 0)) = zr (f p.a) := rfl
  rw [hz0] at ht hat
  have hlr : lb ≠ rb := by
    intro e
    obtain ⟨es, cl, hbk⟩ := hR.map.isMapBlock
    rw [e, hR.blk] at hbk; simp at hbk
  have hk : ∀ k, k < w.heap.size → k ≠ lb → (zr (f p.a)).ownBlock ≠ some k → w'.heap[k]? = w.heap[k]? := fun k h1 h2 h3 => ht.block k h1 (by rintro (e | e); exact h2 e; exact h3 e.symm)
  have hvf : ∀ g, v'.ownBlock = some g → (zr (f p.a)).ownBlock = some g ∨ w.heap.size ≤ g := by
    intro g hg
    rcases hat with e | ⟨j, e, hj⟩
    · left; rw [e, hg]
    · right; rw [hg] at e; simp at e; omega
  have hzz : ∀ x, zr ((fun x => if x = p.a then some v' else f x) x) = if x = p.a then v' else zr (f x) := by
    intro x; by_cases hx : x = p.a <;> simp [hx, zr]
  refine ⟨rfl, fun x => if x = p.a then some v' else f x, { hB := Nat.le_trans hB ht.size, hrb := hrb, hlb := hlb, own := ?_, blk := ?_, map := ?_, keys := ?_, rows := ?_, sepv := ?_, sep := ?_ }, ?_, ?_⟩
  · exact ownsRow_block hR.own (fun g hg => hk g (hR.own.lt g hg).2 (by have := (hR.own.lt g hg).1; omega) (fun e => hR.sepv p.a g e hg))
  · exact (hk rb (by omega) (Ne.symm hlr) (fun e => by have := (hrow.lt _ e).1; omega)).trans hR.blk
  · have hkk := hR.keys p.a
    have : (if (f p.a).isSome = true then n else n + 1) = (if (G p.a).isEmpty then n + 1 else n) := by
      rw [hkk]; cases (G p.a).isEmpty <;> simp
    rw [← this]; exact hm'
  · intro ad
    by_cases hx : ad = p.a
    · simp [hx]
    · simpa [hx] using hR.keys ad
  · intro ad
    rw [hzz]
    by_cases hx : ad = p.a
    · subst hx
      simp only [if_true]
      rw [flat2_snoc]; simpa using hown'
    · simp only [hx, if_false]
      exact ownsRow_block (hR.rows ad) (fun g hg => hk g ((hR.rows ad).lt g hg).2 (by have := ((hR.rows ad).lt g hg).1; omega) (hR.sep ad p.a g hx hg))
  · intro ad g hg
    rw [hzz] at hg
    by_cases hx : ad = p.a
    · simp only [hx, if_true] at hg
      rcases hvf g hg with e | e
      · exact hR.sepv p.a g e
      · intro e2; have := (hR.own.lt g e2).2; omega
    · simp only [hx, if_false] at hg
      exact hR.sepv ad g hg
  · intro ad ad' g hne hg
    rw [hzz] at hg ⊢
    by_cases hx : ad = p.a
    · have hx' : ad' ≠ p.a := fun e => hne (hx.trans e.symm)
      simp only [hx, hx', if_true, if_false] at hg ⊢
      rcases hvf g hg with e | e
      · exact hR.sep p.a ad' g (Ne.symm hx') e
      · intro e2; have := ((hR.rows ad').lt g e2).2; omega
    · simp only [hx, if_false] at hg
      by_cases hx' : ad' = p.a
      · simp only [hx', if_true]
        intro e
        rcases hvf g e with e | e
        · exact hR.sep ad p.a g hx hg e
        · have := ((hR.rows ad).lt g hg).2; omega
      · simp only [hx', if_false]
        exact hR.sep ad ad' g hne hg
  · exact ht.mono (fun k _ hs => by rcases hs with e | e; exact .inr (.inl e); exact .inr (.inr (.inr ⟨p.a, e.symm⟩)))
  · rintro j (e | ⟨ad, e⟩)
    · exact .inl (.inl e)
    · rw [hzz] at e
      by_cases hx : ad = p.a
      · simp only [hx, if_true] at e
        rcases hvf j e with e | e
        · exact .inl (.inr ⟨p.a, e⟩)
        · exact .inr e
      · simp only [hx, if_false] at e; exact .inl (.inr ⟨ad, e⟩)

set_option maxRecDepth 100000 in
/-- unindex at an entry that names no subscriber: nothing to do. -/
theorem unindex_zero (rb : Nat) (p : Pr) (w : World) (ha : p.a.toList.isEmpty = true) :
    Calls Ybaz.prog 24 #[.pointer (some ⟨rb, 0, none⟩), .agg #[.string p.a, .int .u64 p.b, .int .u8 p.n]] w fun e w' => e = .returned (.tuple #[]) ∧ Below w.heap.size w w' := by
  have HC := fun wx => peerNone p.a p.b p.n wx
  simp only [ha] at HC
  go_enter Ybaz.func24, Ybaz.ntmps24
  go_wp2_with (go_at_call 33; refine (HC _).mono ?_; rintro e w' ⟨rfl, rfl⟩)
  refine bodyPost_ret (results_none rfl _ _ _) rfl ?_
  exact ⟨rfl, ((Below.refl _ w).alloc (Nat.le_refl _) _).alloc (by simp) _⟩

set_option maxRecDepth 100000 in
/-- index at an entry that names no subscriber: nothing to do. -/
theorem index_zero (rb : Nat) (p : Pr) (w : World) (ha : p.a.toList.isEmpty = true) :
    Calls Ybaz.prog 26 #[.pointer (some ⟨rb, 0, none⟩), .agg #[.string p.a, .int .u64 p.b, .int .u8 p.n]] w fun e w' => e = .returned (.tuple #[]) ∧ Below w.heap.size w w' := by
  have HC := fun wx => peerNone p.a p.b p.n wx
  simp only [ha] at HC
  go_enter Ybaz.func26, Ybaz.ntmps26
  go_wp2_with (go_at_call 33; refine (HC _).mono ?_; rintro e w' ⟨rfl, rfl⟩)
  go_end0
  exact ⟨rfl, ((Below.refl _ w).alloc (Nat.le_refl _) _).alloc (by simp) _⟩
end Go.Proofs.YbulkclxkGreat.del
