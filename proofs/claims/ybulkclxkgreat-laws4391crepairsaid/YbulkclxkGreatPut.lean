import Derived.Test.YbulkclxkGreatSup
namespace Go.Proofs.YbulkclxkGreat.put
open Go.ChangeShapes Go.WideShapes Go.ChangeAt Go.RowKit
open lab ring maps sup
set_option linter.unusedVariables false

def flat (L : List Pr) : List Value := L.flatMap fun p => [.string p.a, .int .u64 p.b, .int .u8 p.n]
def flat2 (L : List (Int × Int)) : List Value := L.flatMap fun p => [.int .u64 p.1, .int .u8 p.2]
def nth (L : List Pr) (j : Nat) : Pr := L.getD j ⟨.empty, 0, 0⟩

theorem flat_cons (p : Pr) (L : List Pr) : flat (p :: L) = .string p.a :: .int .u64 p.b :: .int .u8 p.n :: flat L := rfl
theorem flat_append (L M : List Pr) : flat (L ++ M) = flat L ++ flat M := by simp [flat]
theorem flat_length (L : List Pr) : (flat L).length = L.length * 3 := by
  induction L with
  | nil => rfl
  | cons p L ih => rw [flat_cons]; simp [ih]; omega
theorem flat_take (L : List Pr) (i : Nat) : (flat L).take (i * 3) = flat (L.take i) := by
  induction L generalizing i with
  | nil => simp [flat]
  | cons p L ih =>
    rcases i with _ | i
    · simp [flat]
    · rw [flat_cons, show (i + 1) * 3 = i * 3 + 3 by omega]
      simp only [List.take_succ_cons, flat_cons, ih]
theorem flat_drop (L : List Pr) (i : Nat) : (flat L).drop (i * 3) = flat (L.drop i) := by
  induction L generalizing i with
  | nil => simp [flat]
  | cons p L ih =>
    rcases i with _ | i
    · simp
    · rw [flat_cons, show (i + 1) * 3 = i * 3 + 3 by omega]
      simp only [List.drop_succ_cons, ih]
theorem flat_one (L : List Pr) : ∀ u ∈ flat L, u.oneCell' = true := by
  induction L with
  | nil => simp [flat]
  | cons p L ih => rw [flat_cons]; simpa [Value.oneCell'] using ih
theorem flat_at (L : List Pr) (j : Nat) (hj : j < L.length) : (flat L)[j * 3]? = some (.string (nth L j).a) ∧ (flat L)[j * 3 + 1]? = some (.int .u64 (nth L j).b) ∧ (flat L)[j * 3 + 2]? = some (.int .u8 (nth L j).n) := by
  induction L generalizing j with
  | nil => simp at hj
  | cons p L ih =>
    rcases j with _ | j
    · exact ⟨rfl, rfl, rfl⟩
    · have := ih j (by simpa using hj)
      rw [flat_cons, show (j + 1) * 3 = j * 3 + 3 by omega]
      simpa [nth] using this
theorem flat2_snoc (L : List (Int × Int)) (a b : Int) : flat2 (L ++ [(a, b)]) = flat2 L ++ [.int .u64 a, .int .u8 b] := by simp [flat2]

theorem ring_of {w : World} {B : Nat} {v : Value} {L : List Pr} (h : w.ownsRow B 31 3 v L.length (flat L)) : Ring w v L.length (nth L) := by
  have h0 := h
  obtain ⟨_, ⟨rfl, h2⟩ | ⟨g, c, cur, rfl, hB, hg, _⟩⟩ := h
  · exact .inl ⟨none, 0, h2, rfl⟩
  · rcases Nat.eq_zero_or_pos L.length with hz | hz
    · exact .inl ⟨some ⟨g, 0, none⟩, c, hz, by rw [hz]⟩
    · refine .inr ⟨g, c, hz, rfl, (h0.lt g rfl).2, fun j hj => ?_⟩
      have := flat_at L j hj
      exact ⟨(h0.cellAt _ (by omega)).trans this.1, (h0.cellAt _ (by omega)).trans this.2.1, (h0.cellAt _ (by omega)).trans this.2.2⟩

def zr (o : Option Value) : Value := o.getD (.slice none 0 0)

/-- The roster at rb, its labels at lb, its own rows at or above B. -/
structure Ros (w : World) (B rb lb : Nat) (L : List Pr) (n : Nat) (G : ByteArray → List (Int × Int)) (t0 t1 st : Int) (v : Value) (f : ByteArray → Option Value) : Prop where
  hB : B ≤ w.heap.size
  hrb : rb < B
  hlb : lb < B
  own : w.ownsRow B 31 3 v L.length (flat L)
  blk : w.heap[rb]? = some (.cells #[v, .map (some lb), .int .u64 t0, .int .u8 t1, .slice none 0 0, .int .u64 st] 66 (0, 0))
  map : MapAt w lb f n
  keys : ∀ ad, (f ad).isSome = !(G ad).isEmpty
  rows : ∀ ad, w.ownsRow B 28 2 (zr (f ad)) (G ad).length (flat2 (G ad))
  sepv : ∀ ad g, (zr (f ad)).ownBlock = some g → v.ownBlock ≠ some g
  sep : ∀ ad ad' g, ad ≠ ad' → (zr (f ad)).ownBlock = some g → (zr (f ad')).ownBlock ≠ some g

theorem Ros.later {w w' : World} {B rb lb n : Nat} {L : List Pr} {G : ByteArray → List (Int × Int)} {t0 t1 st : Int} {v : Value} {f : ByteArray → Option Value} (h : Ros w B rb lb L n G t0 t1 st v f) (hb : Below w.heap.size w w') :
    Ros w' B rb lb L n G t0 t1 st v f := by
  have hk : ∀ k, k < w.heap.size → w'.heap[k]? = w.heap[k]? := fun k hk => hb.block k hk
  have hg : w.grownBy w' none := ⟨hb.os, hb.tape, hb.output, hb.size, fun k hk' _ => hk k hk'⟩
  exact { hB := Nat.le_trans h.hB hb.size, hrb := h.hrb, hlb := h.hlb, own := h.own.kept hg (by cases h' : v.ownBlock <;> simp),
          blk := (hk _ (Nat.lt_of_lt_of_le h.hrb h.hB)).trans h.blk, map := h.map.of_block (hk _ h.map.lt), keys := h.keys,
          rows := fun ad => (h.rows ad).kept hg (by cases h' : (zr (f ad)).ownBlock <;> simp), sepv := h.sepv, sep := h.sep }


theorem ownsRow_block {w w' : World} {B n size : Nat} {e : TypeId} {v : Value} {xs : List Value} (h : w.ownsRow B e size v n xs) (hb : ∀ g, v.ownBlock = some g → w'.heap[g]? = w.heap[g]?) : w'.ownsRow B e size v n xs := by
  obtain ⟨hl, h | ⟨g, cap, cur, rfl, h1, h2, h3⟩⟩ := h
  · exact ⟨hl, .inl h⟩
  · exact ⟨hl, .inr ⟨g, cap, cur, rfl, h1, (hb g rfl).trans h2, h3⟩⟩

theorem setCell_at (w : World) (b o : Nat) (u : Value) (cs : Array Value) (t : TypeId) (h : w.heap[b]? = some (.cells cs t (0, 0))) : (w.setCell ⟨b, o, none⟩ u).heap[b]? = some (.cells (cs.setIfInBounds o u) t (0, 0)) := by
  simp [World.setCell, Array.getElem?_modify, h]

theorem Ros.setRing {w w2 : World} {B rb lb n : Nat} {L L' : List Pr} {G : ByteArray → List (Int × Int)} {t0 t1 st : Int} {v v' : Value} {f : ByteArray → Option Value} (h : Ros w B rb lb L n G t0 t1 st v f)
    (hg : w.grownBy w2 v.ownBlock) (hown : w2.ownsRow B 31 3 v' L'.length (flat L')) (hat : v'.ownBlock = v.ownBlock ∨ ∃ k, v'.ownBlock = some k ∧ w.heap.size ≤ k) :
    Ros (w2.setCell ⟨rb, 0, none⟩ v') B rb lb L' n G t0 t1 st v' f ∧ Turned (fun j => j = rb ∨ some j = v.ownBlock) w (w2.setCell ⟨rb, 0, none⟩ v') := by
  have hB := h.hB
  have hrb := h.hrb
  have hlb := h.hlb
  have hvB : ∀ k, v.ownBlock = some k → B ≤ k := fun k hk => (h.own.lt k hk).1
  have hsz := hg.size
  have hlr : lb ≠ rb := by
    intro e
    obtain ⟨es, cl, hbk⟩ := h.map.isMapBlock
    rw [e, h.blk] at hbk; simp at hbk
  have hk : ∀ k, k < w.heap.size → k ≠ rb → v.ownBlock ≠ some k → (w2.setCell ⟨rb, 0, none⟩ v').heap[k]? = w.heap[k]? := fun k h1 h2 h3 => (Below.heap_setCell _ _ _ _ h2).trans (hg.block k h1 (Ne.symm h3))
  have hr2 : w2.heap[rb]? = some (.cells #[v, .map (some lb), .int .u64 t0, .int .u8 t1, .slice none 0 0, .int .u64 st] 66 (0, 0)) := (hg.block rb (by omega) (fun e => by have := hvB _ e.symm; omega)).trans h.blk
  refine ⟨{ hB := ?_, hrb := hrb, hlb := hlb, own := ?_, blk := ?_, map := ?_, keys := h.keys, rows := ?_, sepv := ?_, sep := h.sep }, ⟨?_, ?_, ?_, ?_, ?_⟩⟩
  · have : (w2.setCell ⟨rb, 0, none⟩ v').heap.size = w2.heap.size := by simp [World.setCell]
    omega
  · exact ownsRow_block hown (fun g hg' => Below.heap_setCell _ _ _ _ (by have := (hown.lt g hg').1; show g ≠ rb; omega))
  · exact setCell_at w2 rb 0 v' _ _ hr2
  · exact h.map.of_block (hk lb (by omega) hlr (fun e => by have := hvB _ e; omega))
  · intro ad
    exact ownsRow_block (h.rows ad) (fun g hg' => hk g ((h.rows ad).lt g hg').2 (by have := ((h.rows ad).lt g hg').1; omega) (h.sepv ad g hg'))
  · intro ad g hg' hv'
    rcases hat with e | ⟨k, e, hk'⟩
    · exact h.sepv ad g hg' (e ▸ hv')
    · rw [hv'] at e
      have := ((h.rows ad).lt g hg').2
      simp at e; omega
  · exact hg.os
  · exact hg.tape
  · exact hg.output
  · have : (w2.setCell ⟨rb, 0, none⟩ v').heap.size = w2.heap.size := by simp [World.setCell]
    omega
  · intro k h1 h2
    exact hk k h1 (fun e => h2 (.inl e)) (fun e => h2 (.inr e.symm))

theorem index_ros (B rb lb n : Nat) (L : List Pr) (G : ByteArray → List (Int × Int)) (t0 t1 st : Int) (v : Value) (f : ByteArray → Option Value) (p : Pr) (w : World) (hR : Ros w B rb lb L n G t0 t1 st v f)
    (hn : n ≤ 1000) (hG : (G p.a).length ≤ 1000) (ha : p.a.toList.isEmpty = false) (has : p.a.size ≤ maxLen) :
    Calls Ybaz.prog 26 #[.pointer (some ⟨rb, 0, none⟩), .agg #[.string p.a, .int .u64 p.b, .int .u8 p.n]] w fun e w' => e = .returned (.tuple #[]) ∧
      (∃ f', Ros w' B rb lb L (if (G p.a).isEmpty then n + 1 else n) (fun x => if x = p.a then G x ++ [(p.b, p.n)] else G x) t0 t1 st v f') ∧ Turned (fun j => j = lb ∨ B ≤ j) w w' := by
  have hB := hR.hB
  have hrb := hR.hrb
  have hlb := hR.hlb
  have hrow := hR.rows p.a
  refine (index_any B rb lb n (G p.a).length f p.a p.b p.n (flat2 (G p.a)) w ha has (by omega) (by omega) hB hR.map (by simp [World.cell?, hR.blk]) hrow
    (fun e => by have := (hrow.lt _ e).1; omega) (fun e => by have := (hrow.lt _ e).1; omega)).mono ?_
  rintro e w' ⟨rfl, v', hown', hm', ht, hat⟩
  have hz0 : ((f p.a).getD (.slice none 0 0)) = zr (f p.a) := rfl
  rw [hz0] at ht hat
  have hlr : lb ≠ rb := by
    intro e
    obtain ⟨es, cl, hbk⟩ := hR.map.isMapBlock
    rw [e, hR.blk] at hbk; simp at hbk
  have hk : ∀ k, k < w.heap.size → k ≠ lb → (zr (f p.a)).ownBlock ≠ some k → w'.heap[k]? = w.heap[k]? := fun k h1 h2 h3 => ht.block k h1 (by rintro (e | e); exact h2 e; exact h3 e.symm)
  have hvf : ∀ g, v'.ownBlock = some g → (zr (f p.a)).ownBlock = some g ∨ w.heap.size ≤ g := by
    intro g hg
    rcases hat with e | ⟨j, e, hj⟩
    · left; rw [e, hg]
    · right; rw [hg] at e; simp at e; omega
  have hzz : ∀ x, zr ((fun x => if x = p.a then some v' else f x) x) = if x = p.a then v' else zr (f x) := by
    intro x; by_cases hx : x = p.a <;> simp [hx, zr]
  refine ⟨rfl, ⟨fun x => if x = p.a then some v' else f x, { hB := Nat.le_trans hB ht.size, hrb := hrb, hlb := hlb, own := ?_, blk := ?_, map := ?_, keys := ?_, rows := ?_, sepv := ?_, sep := ?_ }⟩, ?_⟩
  · exact ownsRow_block hR.own (fun g hg => hk g (hR.own.lt g hg).2 (by have := (hR.own.lt g hg).1; omega) (fun e => hR.sepv p.a g e hg))
  · exact (hk rb (by omega) (Ne.symm hlr) (fun e => by have := (hrow.lt _ e).1; omega)).trans hR.blk
  · have hkk := hR.keys p.a
    have : (if (f p.a).isSome = true then n else n + 1) = (if (G p.a).isEmpty then n + 1 else n) := by
      rw [hkk]; cases (G p.a).isEmpty <;> simp
    rw [← this]; exact hm'
  · intro ad
    by_cases hx : ad = p.a
    · simp [hx]
    · simpa [hx] using hR.keys ad
  · intro ad
    rw [hzz]
    by_cases hx : ad = p.a
    · subst hx
      simp only [if_true]
      rw [flat2_snoc]; simpa using hown'
    · simp only [hx, if_false]
      exact ownsRow_block (hR.rows ad) (fun g hg => hk g ((hR.rows ad).lt g hg).2 (by have := ((hR.rows ad).lt g hg).1; omega) (hR.sep ad p.a g hx hg))
  · intro ad g hg
    rw [hzz] at hg
    by_cases hx : ad = p.a
    · simp only [hx, if_true] at hg
      rcases hvf g hg with e | e
      · exact hR.sepv p.a g e
      · intro e2; have := (hR.own.lt g e2).2; omega
    · simp only [hx, if_false] at hg
      exact hR.sepv ad g hg
  · intro ad ad' g hne hg
    rw [hzz] at hg ⊢
    by_cases hx : ad = p.a
    · have hx' : ad' ≠ p.a := fun e => hne (hx.trans e.symm)
      simp only [hx, hx', if_true, if_false] at hg ⊢
      rcases hvf g hg with e | e
      · exact hR.sep p.a ad' g (Ne.symm hx') e
      · intro e2; have := ((hR.rows ad').lt g e2).2; omega
    · simp only [hx, if_false] at hg
      by_cases hx' : ad' = p.a
      · simp only [hx', if_true]
        intro e
        rcases hvf g e with e | e
        · exact hR.sep ad p.a g hx hg e
        · have := ((hR.rows ad).lt g hg).2; omega
      · simp only [hx', if_false]
        exact hR.sep ad ad' g hne hg
  · exact ht.mono (fun k _ hs => by rcases hs with e | e; exact .inl e; exact .inr (hrow.lt k e.symm).1)

set_option maxRecDepth 100000 in
set_option maxHeartbeats 2000000 in
theorem put_new (B rb lb n i : Nat) (L : List Pr) (G : ByteArray → List (Int × Int)) (t0 t1 st : Int) (v : Value) (f : ByteArray → Option Value) (p : Pr) (w : World) (hR : Ros w B rb lb L n G t0 t1 st v f)
    (hL : L.length ≤ 1000) (hn : n ≤ 1000) (hG : (G p.a).length ≤ 1000) (ha : p.a.toList.isEmpty = false) (has : p.a.size ≤ maxLen) (hln : ∀ q ∈ L, 0 ≤ q.n ∧ q.n ≤ 64) (hpn : 0 ≤ p.n ∧ p.n ≤ 64) (hs : Sought (nth L) L.length p.b p.n i false) :
    Calls Ybaz.prog 16 #[.pointer (some ⟨rb, 0, none⟩), .agg #[.string p.a, .int .u64 p.b, .int .u8 p.n]] w fun e w' => e = .returned (.tuple #[]) ∧
      (∃ v' f', Ros w' B rb lb (L.take i ++ p :: L.drop i) (if (G p.a).isEmpty then n + 1 else n) (fun x => if x = p.a then G x ++ [(p.b, p.n)] else G x) t0 t1 st v' f') ∧ Turned (fun j => j = rb ∨ j = lb ∨ B ≤ j) w w' := by
  generalize hnn : (if (G p.a).isEmpty = true then n + 1 else n) = nn
  have hi : i ≤ L.length := hs.le
  have hRB : rb < w.heap.size := Nat.lt_of_lt_of_le hR.hrb hR.hB
  have HS : Hid (∀ wx, Below w.heap.size w wx → Calls Ybaz.prog 23 #[.pointer (some ⟨rb, 0, none⟩), .agg #[.int .u64 p.b, .int .u8 p.n]] wx fun e w' => e = .returned (.tuple #[.int .i64 i, .bool false]) ∧ Below wx.heap.size wx w') := fun wx hb =>
    search_any rb v L.length i (nth L) p.b p.n false wx (by omega) (ring_of (hR.later hb).own) (fun j hj => hln _ (by rw [nth, List.getD_eq_getElem?_getD, List.getElem?_eq_getElem hj]; simp)) hpn hs (by simp [World.cell?, (hR.later hb).blk])
  have HR : Hid (Ros w B rb lb L n G t0 t1 st v f) := hR
  clear hR hs hln
  go_enter Ybaz.func16, Ybaz.ntmps16
  go_wp2_with (go_at_call 23; refine (HS.out _ ((Below.refl _ _).alloc (Nat.le_refl _) _)).mono ?_; rintro e w1 ⟨rfl, hb1⟩)
  have HR1 : Hid (Ros w1 B rb lb L n G t0 t1 st v f) := (HR.out.later ((Below.refl _ _).alloc (Nat.le_refl _) _)).later hb1
  have hsz1 : w.heap.size + 1 ≤ w1.heap.size := by have := hb1.size; simpa using this
  have c0 : w1.cell? ⟨rb, 0, none⟩ = some v := by simp [World.cell?, HR1.out.blk]
  have c0a : ∀ o, (w1.alloc o).cell? ⟨rb, 0, none⟩ = some v := fun o => by rw [World.cell?_alloc_past _ _ _ (by show rb < _; omega)]; exact c0
  have hbx : ∀ j, w1.cell? ⟨w.heap.size, j, none⟩ = (#[.string p.a, .int .u64 p.b, .int .u8 p.n] : Array Value)[j]? := fun j => by
    rw [hb1.cell (p := ⟨w.heap.size, j, none⟩) (by simp), World.cell?_alloc_at _ _ _ _ rfl]
  have hbxa : ∀ o j, (w1.alloc o).cell? ⟨w.heap.size, j, none⟩ = (#[.string p.a, .int .u64 p.b, .int .u8 p.n] : Array Value)[j]? := fun o j => by
    rw [World.cell?_alloc_past _ _ _ (by show w.heap.size < _; omega)]; exact hbx j
  have k0 := hbx 0
  have k1 := hbx 1
  have k2 := hbx 2
  have HI : Calls Ybaz.prog 25 #[v, .int .i64 i, .slice (some ⟨w1.heap.size, 0, none⟩) 1 1] (w1.alloc (.cells #[.string p.a, .int .u64 p.b, .int .u8 p.n] 31)).drew fun e w2 => ∃ g c, e = .returned (.slice (some ⟨g, 0, none⟩) (L.length + 1) c) ∧
      (w2.cell? ⟨w.heap.size, 0, none⟩ = some (.string p.a) ∧ w2.cell? ⟨w.heap.size, 1, none⟩ = some (.int .u64 p.b) ∧ w2.cell? ⟨w.heap.size, 2, none⟩ = some (.int .u8 p.n)) ∧
      w2.cell? ⟨rb, 0, none⟩ = some v ∧ w2.frozen? ⟨rb, 0, none⟩ = false ∧
      w2.heap[rb]? = some (.cells #[v, .map (some lb), .int .u64 t0, .int .u8 t1, .slice none 0 0, .int .u64 st] 66 (0, 0)) ∧
      w2.ownsRow B 31 3 (.slice (some ⟨g, 0, none⟩) (L.length + 1) c) (L.length + 1) (flat (L.take i ++ p :: L.drop i)) ∧ w1.grownBy w2 v.ownBlock ∧ (some g = v.ownBlock ∨ g = w1.heap.size + 1) := by
    have hB1 := HR1.out.hB
    have hrbB := HR.out.hrb
    refine (insert_any B L.length i w1.heap.size v (flat L) [.string p.a, .int .u64 p.b, .int .u8 p.n] _ hi (by omega) (by simp; omega) ((HR1.out.own.alloc _).drew) (flat_one L) (by exact heap_alloc_new _ _) rfl (by simp [Value.oneCell']) (fun e => Nat.lt_irrefl _ (HR1.out.own.lt _ e).2)).mono ?_
    rintro e w2 ⟨v', rfl, hown2, hgrow, hat⟩
    have hvB : ∀ k, some k = v.ownBlock → B ≤ k ∧ k < w.heap.size := fun k hk => HR.out.own.lt k hk.symm
    have r1 : w2.heap[rb]? = some (.cells #[v, .map (some lb), .int .u64 t0, .int .u8 t1, .slice none 0 0, .int .u64 st] 66 (0, 0)) :=
      (hgrow.block rb (by simp; omega) (fun e => by have := hvB _ e; omega)).trans ((Below.heap_alloc _ _ _ (by omega)).trans HR1.out.blk)
    obtain ⟨g, c, rfl, _, _⟩ := hown2.form (by omega)
    refine ⟨g, c, rfl, ⟨hgrow.cell (hbxa _ 0) (fun e => by have := hvB _ e; simp at this), hgrow.cell (hbxa _ 1) (fun e => by have := hvB _ e; simp at this), hgrow.cell (hbxa _ 2) (fun e => by have := hvB _ e; simp at this)⟩, by simp [World.cell?, r1], by simp [World.frozen?, r1], r1, ?_, ?_, by simpa [Value.ownBlock] using hat⟩
    · rw [flat_append, flat_cons, ← flat_take, ← flat_drop]
      simpa using hown2
    · exact ⟨hgrow.os, hgrow.tape, hgrow.output, by have := hgrow.size; simp at this; omega, fun k hk hne => (hgrow.block k (by simp; omega) hne).trans (Below.heap_alloc _ _ _ hk)⟩
  have HJ : Hid (∀ w2 g c, w1.grownBy w2 v.ownBlock → w2.ownsRow B 31 3 (.slice (some ⟨g, 0, none⟩) (L.length + 1) c) (L.length + 1) (flat (L.take i ++ p :: L.drop i)) → (some g = v.ownBlock ∨ g = w1.heap.size + 1) →
      Calls Ybaz.prog 26 #[.pointer (some ⟨rb, 0, none⟩), .agg #[.string p.a, .int .u64 p.b, .int .u8 p.n]] (w2.setCell ⟨rb, 0, none⟩ (.slice (some ⟨g, 0, none⟩) (L.length + 1) c)) fun e w' => e = .returned (.tuple #[]) ∧
      (∃ v' f', Ros w' B rb lb (L.take i ++ p :: L.drop i) nn (fun x => if x = p.a then G x ++ [(p.b, p.n)] else G x) t0 t1 st v' f') ∧ Turned (fun j => j = rb ∨ j = lb ∨ B ≤ j) w w') := by
    intro w2 g c hg ho hat
    have hlen : (L.take i ++ p :: L.drop i).length = L.length + 1 := by simp; omega
    obtain ⟨hR2, hT⟩ := HR1.out.setRing (L' := L.take i ++ p :: L.drop i) (v' := .slice (some ⟨g, 0, none⟩) (L.length + 1) c) hg (by rw [hlen]; exact ho) (hat.elim (fun e => .inl e) (fun e => .inr ⟨g, rfl, by omega⟩))
    refine (index_ros B rb lb n _ G t0 t1 st _ f p _ hR2 hn hG ha has).mono ?_
    rintro e w' ⟨rfl, ⟨f', hR3⟩, hT3⟩
    rw [hnn] at hR3
    refine ⟨rfl, ⟨_, f', hR3⟩, ?_⟩
    have hT0 : Turned (fun j => j = rb ∨ j = lb ∨ B ≤ j) w w1 := ((Turned.refl _ w).alloc _).trans ((Turned.of_below hb1).mono (fun k hk hs => by omega))
    exact (hT0.trans (hT.mono (fun k _ hs => by rcases hs with e | e; exact .inl e; exact .inr (.inr (HR1.out.own.lt k e.symm).1)))).trans (hT3.mono (fun k _ hs => .inr hs))
  go_region_with
    ((go_at_call 25; refine HI.mono ?_; rintro e w2 ⟨g, c, rfl, ⟨p0, p1, p2⟩, r2, r3, r1, hown2, hgrow, hat⟩))
  all_goals (
    have hq : ∀ j, (w2.setCell ⟨rb, 0, none⟩ (.slice (some ⟨g, 0, none⟩) (L.length + 1) c)).cell? ⟨w.heap.size, j, none⟩ = w2.cell? ⟨w.heap.size, j, none⟩ := fun j => World.cell?_of_block (Below.heap_setCell _ _ _ _ (by show w.heap.size ≠ rb; omega))
    have q0 := (hq 0).trans p0
    have q1 := (hq 1).trans p1
    have q2 := (hq 2).trans p2
    clear hq
    go_wp2_with (go_at_call 26; refine (HJ.out w2 g c hgrow hown2 hat).mono ?_; rintro e w3 ⟨rfl, hfin, hT⟩)
    go_end0
    exact ⟨rfl, hfin, hT⟩)
end Go.Proofs.YbulkclxkGreat.put
