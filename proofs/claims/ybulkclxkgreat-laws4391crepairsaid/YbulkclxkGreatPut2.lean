import Derived.Test.YbulkclxkGreatUnindex
namespace Go.Proofs.YbulkclxkGreat.del
open Go.ChangeShapes Go.WideShapes Go.ChangeAt Go.RowKit
open lab ring maps sup put
set_option linter.unusedVariables false

/-- What index (26) and unindex (24) do to a roster. -/
def Sh (k : Nat) (p : Pr) (B rb lb : Nat) (t0 t1 st : Int) (n n' : Nat) (G G' : ByteArray → List (Int × Int)) : Prop :=
  ∀ w L v f, Ros w B rb lb L n G t0 t1 st v f → Calls Ybaz.prog k #[.pointer (some ⟨rb, 0, none⟩), .agg #[.string p.a, .int .u64 p.b, .int .u8 p.n]] w fun e w' => e = .returned (.tuple #[]) ∧ ∃ f', Ros w' B rb lb L n' G' t0 t1 st v f' ∧ Step rb lb w v f w' v f'

theorem sh_index {p : Pr} {B rb lb : Nat} {t0 t1 st : Int} {n : Nat} {G : ByteArray → List (Int × Int)} (hn : n ≤ 1000) (hG : (G p.a).length ≤ 1000) (ha : p.a.toList.isEmpty = false) (has : p.a.size ≤ maxLen) :
    Sh 26 p B rb lb t0 t1 st n (if (G p.a).isEmpty then n + 1 else n) G (fun x => if x = p.a then G x ++ [(p.b, p.n)] else G x) :=
  fun w L v f hR => index_step B rb lb n L G t0 t1 st v f p w hR hn hG ha has
theorem sh_unindex {p : Pr} {B rb lb : Nat} {t0 t1 st : Int} {n : Nat} {G : ByteArray → List (Int × Int)} (hn : n ≤ 1000) (hG : (G p.a).length ≤ 1000) (hne : G p.a ≠ []) (ha : p.a.toList.isEmpty = false) (has : p.a.size ≤ maxLen) :
    Sh 24 p B rb lb t0 t1 st n (if (without p (G p.a)).isEmpty then n - 1 else n) G (fun x => if x = p.a then without p (G x) else G x) :=
  fun w L v f hR => unindex_ros B rb lb n L G t0 t1 st v f p w hR hn hG hne ha has
theorem sh_index0 {p : Pr} {B rb lb : Nat} {t0 t1 st : Int} {n : Nat} {G : ByteArray → List (Int × Int)} (ha : p.a.toList.isEmpty = true) : Sh 26 p B rb lb t0 t1 st n n G G :=
  fun w L v f hR => (index_zero rb p w ha).mono (by
    rintro e w' ⟨rfl, hb⟩
    exact ⟨rfl, f, hR.later hb, Step.of_below hb⟩)
theorem sh_unindex0 {p : Pr} {B rb lb : Nat} {t0 t1 st : Int} {n : Nat} {G : ByteArray → List (Int × Int)} (ha : p.a.toList.isEmpty = true) : Sh 24 p B rb lb t0 t1 st n n G G :=
  fun w L v f hR => (unindex_zero rb p w ha).mono (by
    rintro e w' ⟨rfl, hb⟩
    exact ⟨rfl, f, hR.later hb, Step.of_below hb⟩)

set_option maxRecDepth 100000 in
set_option maxHeartbeats 2000000 in
theorem put_fresh (B rb lb n nn i : Nat) (L : List Pr) (G G' : ByteArray → List (Int × Int)) (t0 t1 st : Int) (v : Value) (f : ByteArray → Option Value) (p : Pr) (w : World) (hR : Ros w B rb lb L n G t0 t1 st v f)
    (hL : L.length ≤ 1000) (hI : Sh 26 p B rb lb t0 t1 st n nn G G') (hln : ∀ q ∈ L, 0 ≤ q.n ∧ q.n ≤ 64) (hpn : 0 ≤ p.n ∧ p.n ≤ 64) (hs : Sought (nth L) L.length p.b p.n i false) :
    Calls Ybaz.prog 16 #[.pointer (some ⟨rb, 0, none⟩), .agg #[.string p.a, .int .u64 p.b, .int .u8 p.n]] w fun e w' => e = .returned (.tuple #[]) ∧
      (∃ v' f', Ros w' B rb lb (L.take i ++ p :: L.drop i) nn G' t0 t1 st v' f' ∧ Step rb lb w v f w' v' f') := by
  have hi : i ≤ L.length := hs.le
  have hRB : rb < w.heap.size := Nat.lt_of_lt_of_le hR.hrb hR.hB
  have HS : Hid (∀ wx, Below w.heap.size w wx → Calls Ybaz.prog 23 #[.pointer (some ⟨rb, 0, none⟩), .agg #[.int .u64 p.b, .int .u8 p.n]] wx fun e w' => e = .returned (.tuple #[.int .i64 i, .bool false]) ∧ Below wx.heap.size wx w') := fun wx hb =>
    search_any rb v L.length i (nth L) p.b p.n false wx (by omega) (ring_of (hR.later hb).own) (fun j hj => hln _ (by rw [nth, List.getD_eq_getElem?_getD, List.getElem?_eq_getElem hj]; simp)) hpn hs (by simp [World.cell?, (hR.later hb).blk])
  have HR : Hid (Ros w B rb lb L n G t0 t1 st v f) := hR
  clear hR hs hln
  go_enter Ybaz.func16, Ybaz.ntmps16
  go_wp2_with (go_at_call 23; refine (HS.out _ ((Below.refl _ _).alloc (Nat.le_refl _) _)).mono ?_; rintro e w1 ⟨rfl, hb1⟩)
  have HR1 : Hid (Ros w1 B rb lb L n G t0 t1 st v f) := (HR.out.later ((Below.refl _ _).alloc (Nat.le_refl _) _)).later hb1
  have hsz1 : w.heap.size + 1 ≤ w1.heap.size := by have := hb1.size; simpa using this
  have c0 : w1.cell? ⟨rb, 0, none⟩ = some v := by simp [World.cell?, HR1.out.blk]
  have c0a : ∀ o, (w1.alloc o).cell? ⟨rb, 0, none⟩ = some v := fun o => by rw [World.cell?_alloc_past _ _ _ (by show rb < _; omega)]; exact c0
  have hbx : ∀ j, w1.cell? ⟨w.heap.size, j, none⟩ = (#[.string p.a, .int .u64 p.b, .int .u8 p.n] : Array Value)[j]? := fun j => by
    rw [hb1.cell (p := ⟨w.heap.size, j, none⟩) (by simp), World.cell?_alloc_at _ _ _ _ rfl]
  have hbxa : ∀ o j, (w1.alloc o).cell? ⟨w.heap.size, j, none⟩ = (#[.string p.a, .int .u64 p.b, .int .u8 p.n] : Array Value)[j]? := fun o j => by
    rw [World.cell?_alloc_past _ _ _ (by show w.heap.size < _; omega)]; exact hbx j
  have k0 := hbx 0
  have k1 := hbx 1
  have k2 := hbx 2
  have HI : Calls Ybaz.prog 25 #[v, .int .i64 i, .slice (some ⟨w1.heap.size, 0, none⟩) 1 1] (w1.alloc (.cells #[.string p.a, .int .u64 p.b, .int .u8 p.n] 31)).drew fun e w2 => ∃ g c, e = .returned (.slice (some ⟨g, 0, none⟩) (L.length + 1) c) ∧
      (w2.cell? ⟨w.heap.size, 0, none⟩ = some (.string p.a) ∧ w2.cell? ⟨w.heap.size, 1, none⟩ = some (.int .u64 p.b) ∧ w2.cell? ⟨w.heap.size, 2, none⟩ = some (.int .u8 p.n)) ∧
      w2.cell? ⟨rb, 0, none⟩ = some v ∧ w2.frozen? ⟨rb, 0, none⟩ = false ∧
      w2.heap[rb]? = some (.cells #[v, .map (some lb), .int .u64 t0, .int .u8 t1, .slice none 0 0, .int .u64 st] 66 (0, 0)) ∧
      w2.ownsRow B 31 3 (.slice (some ⟨g, 0, none⟩) (L.length + 1) c) (L.length + 1) (flat (L.take i ++ p :: L.drop i)) ∧ w1.grownBy w2 v.ownBlock ∧ (some g = v.ownBlock ∨ g = w1.heap.size + 1) := by
    have hB1 := HR1.out.hB
    have hrbB := HR.out.hrb
    refine (insert_any B L.length i w1.heap.size v (flat L) [.string p.a, .int .u64 p.b, .int .u8 p.n] _ hi (by omega) (by simp; omega) ((HR1.out.own.alloc _).drew) (flat_one L) (by exact heap_alloc_new _ _) rfl (by simp [Value.oneCell']) (fun e => Nat.lt_irrefl _ (HR1.out.own.lt _ e).2)).mono ?_
    rintro e w2 ⟨v', rfl, hown2, hgrow, hat⟩
    have hvB : ∀ k, some k = v.ownBlock → B ≤ k ∧ k < w.heap.size := fun k hk => HR.out.own.lt k hk.symm
    have r1 : w2.heap[rb]? = some (.cells #[v, .map (some lb), .int .u64 t0, .int .u8 t1, .slice none 0 0, .int .u64 st] 66 (0, 0)) :=
      (hgrow.block rb (by simp; omega) (fun e => by have := hvB _ e; omega)).trans ((Below.heap_alloc _ _ _ (by omega)).trans HR1.out.blk)
    obtain ⟨g, c, rfl, _, _⟩ := hown2.form (by omega)
    refine ⟨g, c, rfl, ⟨hgrow.cell (hbxa _ 0) (fun e => by have := hvB _ e; simp at this), hgrow.cell (hbxa _ 1) (fun e => by have := hvB _ e; simp at this), hgrow.cell (hbxa _ 2) (fun e => by have := hvB _ e; simp at this)⟩, by simp [World.cell?, r1], by simp [World.frozen?, r1], r1, ?_, ?_, by simpa [Value.ownBlock] using hat⟩
    · rw [flat_append, flat_cons, ← flat_take, ← flat_drop]
      simpa using hown2
    · exact ⟨hgrow.os, hgrow.tape, hgrow.output, by have := hgrow.size; simp at this; omega, fun k hk hne => (hgrow.block k (by simp; omega) hne).trans (Below.heap_alloc _ _ _ hk)⟩
  have HJ : Hid (∀ w2 g c, w1.grownBy w2 v.ownBlock → w2.ownsRow B 31 3 (.slice (some ⟨g, 0, none⟩) (L.length + 1) c) (L.length + 1) (flat (L.take i ++ p :: L.drop i)) → (some g = v.ownBlock ∨ g = w1.heap.size + 1) →
      Calls Ybaz.prog 26 #[.pointer (some ⟨rb, 0, none⟩), .agg #[.string p.a, .int .u64 p.b, .int .u8 p.n]] (w2.setCell ⟨rb, 0, none⟩ (.slice (some ⟨g, 0, none⟩) (L.length + 1) c)) fun e w' => e = .returned (.tuple #[]) ∧
      (∃ v' f', Ros w' B rb lb (L.take i ++ p :: L.drop i) nn G' t0 t1 st v' f' ∧ Step rb lb w v f w' v' f')) := by
    intro w2 g c hg ho hat
    have hlen : (L.take i ++ p :: L.drop i).length = L.length + 1 := by simp; omega
    obtain ⟨hR2, hT⟩ := HR1.out.setRing (L' := L.take i ++ p :: L.drop i) (v' := .slice (some ⟨g, 0, none⟩) (L.length + 1) c) hg (by rw [hlen]; exact ho) (hat.elim (fun e => .inl e) (fun e => .inr ⟨g, rfl, by omega⟩))
    refine (hI _ _ _ _ hR2).mono ?_
    rintro e w' ⟨rfl, f', hR3, hT3⟩
    refine ⟨rfl, _, f', hR3, ?_⟩
    have S1 : Step rb lb w v f w1 v f := Step.of_below (((Below.refl _ w).alloc (Nat.le_refl _) _).trans (hb1.mono (by simp)))
    have S2 : Step rb lb w1 v f (w2.setCell ⟨rb, 0, none⟩ (.slice (some ⟨g, 0, none⟩) (L.length + 1) c)) (.slice (some ⟨g, 0, none⟩) (L.length + 1) c) f :=
      ⟨hT.mono (fun k _ hs => by rcases hs with e | e; exact .inl e; exact .inr (.inr (.inl e.symm))), fun k hk => by
        rcases hk with e | e
        · have e' : g = k := by simpa [Value.ownBlock] using e
          rcases hat with h | h
          · left; left; rw [← h, e']
          · right; omega
        · exact .inl (.inr e)⟩
    exact (S1.trans S2).trans hT3
  go_region_with
    ((go_at_call 25; refine HI.mono ?_; rintro e w2 ⟨g, c, rfl, ⟨p0, p1, p2⟩, r2, r3, r1, hown2, hgrow, hat⟩))
  all_goals (
    have hq : ∀ j, (w2.setCell ⟨rb, 0, none⟩ (.slice (some ⟨g, 0, none⟩) (L.length + 1) c)).cell? ⟨w.heap.size, j, none⟩ = w2.cell? ⟨w.heap.size, j, none⟩ := fun j => World.cell?_of_block (Below.heap_setCell _ _ _ _ (by show w.heap.size ≠ rb; omega))
    have q0 := (hq 0).trans p0
    have q1 := (hq 1).trans p1
    have q2 := (hq 2).trans p2
    clear hq
    go_wp2_with (go_at_call 26; refine (HJ.out w2 g c hgrow hown2 hat).mono ?_; rintro e w3 ⟨rfl, hfin⟩)
    go_end0
    exact ⟨rfl, hfin⟩)

/-- An entry of the ring's row set, all else as it was. -/
theorem Ros.setEntry {w : World} {B rb lb n g c : Nat} {L : List Pr} {G : ByteArray → List (Int × Int)} {t0 t1 st : Int} {f : ByteArray → Option Value} (h : Ros w B rb lb L n G t0 t1 st (.slice (some ⟨g, 0, none⟩) L.length c) f) {w2 : World} {L' : List Pr}
    (hlen : L'.length = L.length) (hg : w.grownBy w2 (some g)) (hown : w2.ownsRow B 31 3 (.slice (some ⟨g, 0, none⟩) L.length c) L.length (flat L')) :
    Ros w2 B rb lb L' n G t0 t1 st (.slice (some ⟨g, 0, none⟩) L'.length c) f ∧ Turned (fun j => j = g) w w2 := by
  have hB := h.hB
  have hrb := h.hrb
  have hlb := h.hlb
  have hgB : B ≤ g := (h.own.lt g rfl).1
  have hk : ∀ k, k < w.heap.size → k ≠ g → w2.heap[k]? = w.heap[k]? := fun k h1 h2 => hg.block k h1 (by simpa using h2)
  refine ⟨{ hB := Nat.le_trans hB hg.size, hrb := hrb, hlb := hlb, own := by rw [hlen]; exact hown, blk := ?_, map := ?_, keys := h.keys, rows := ?_, sepv := by rw [hlen]; exact h.sepv, sep := h.sep }, ⟨hg.os, hg.tape, hg.output, hg.size, fun k h1 h2 => hk k h1 h2⟩⟩
  · rw [hlen]; exact (hk rb (by omega) (by omega)).trans h.blk
  · exact h.map.of_block (hk lb (by omega) (by omega))
  · intro ad
    exact ownsRow_block (h.rows ad) (fun q hq => hk q ((h.rows ad).lt q hq).2 (fun e => h.sepv ad q hq (by rw [e]; rfl)))

set_option maxRecDepth 100000 in
set_option maxHeartbeats 2000000 in
theorem put_held (B rb lb n n1 nn i : Nat) (L : List Pr) (G G1 G' : ByteArray → List (Int × Int)) (t0 t1 st : Int) (v : Value) (f : ByteArray → Option Value) (p : Pr) (w : World) (hR : Ros w B rb lb L n G t0 t1 st v f)
    (hL : L.length ≤ 1000) (hU : Sh 24 (nth L i) B rb lb t0 t1 st n n1 G G1) (hI : Sh 26 p B rb lb t0 t1 st n1 nn G1 G') (hln : ∀ q ∈ L, 0 ≤ q.n ∧ q.n ≤ 64) (hpn : 0 ≤ p.n ∧ p.n ≤ 64) (hs : Sought (nth L) L.length p.b p.n i true) :
    Calls Ybaz.prog 16 #[.pointer (some ⟨rb, 0, none⟩), .agg #[.string p.a, .int .u64 p.b, .int .u8 p.n]] w fun e w' => e = .returned (.tuple #[]) ∧
      (∃ v' f', Ros w' B rb lb (L.set i p) nn G' t0 t1 st v' f' ∧ Step rb lb w v f w' v' f') := by
  have hi : i < L.length := (hs.yes rfl).1
  obtain ⟨g, c, rfl, hBg, hg⟩ := hR.own.form (by omega)
  have hRB : rb < w.heap.size := Nat.lt_of_lt_of_le hR.hrb hR.hB
  have hrbB := hR.hrb
  have hBw := hR.hB
  have HS : Hid (∀ wx, Below w.heap.size w wx → Calls Ybaz.prog 23 #[.pointer (some ⟨rb, 0, none⟩), .agg #[.int .u64 p.b, .int .u8 p.n]] wx fun e w' => e = .returned (.tuple #[.int .i64 i, .bool true]) ∧ Below wx.heap.size wx w') := fun wx hb =>
    search_any rb _ L.length i (nth L) p.b p.n true wx (by omega) (ring_of (hR.later hb).own) (fun j hj => hln _ (by rw [nth, List.getD_eq_getElem?_getD, List.getElem?_eq_getElem hj]; simp)) hpn hs (by simp [World.cell?, (hR.later hb).blk])
  have HR : Hid (Ros w B rb lb L n G t0 t1 st (.slice (some ⟨g, 0, none⟩) L.length c) f) := hR
  have HU : Hid (Sh 24 (nth L i) B rb lb t0 t1 st n n1 G G1) := hU
  have HI : Hid (Sh 26 p B rb lb t0 t1 st n1 nn G1 G') := hI
  have i1 : (i : Int) < (L.length : Int) := by omega
  clear hR hs hln hU hI
  go_enter Ybaz.func16, Ybaz.ntmps16
  go_wp2_with (first
    | (go_at_call 23; refine (HS.out _ ((Below.refl _ _).alloc (Nat.le_refl _) _)).mono ?_; rintro e w1 ⟨rfl, hb1⟩
       have HR1 : Hid (Ros w1 B rb lb L n G t0 t1 st (.slice (some ⟨g, 0, none⟩) L.length c) f) := (HR.out.later ((Below.refl _ _).alloc (Nat.le_refl _) _)).later hb1
       have hsz1 : w.heap.size + 1 ≤ w1.heap.size := by have := hb1.size; simpa using this
       have c0 : w1.cell? ⟨rb, 0, none⟩ = some (.slice (some ⟨g, 0, none⟩) L.length c) := by simp [World.cell?, HR1.out.blk]
       have a0 := (flat_at L i hi).1
       have hbx : ∀ j, w1.cell? ⟨w.heap.size, j, none⟩ = (#[.string p.a, .int .u64 p.b, .int .u8 p.n] : Array Value)[j]? := fun j => by
         rw [hb1.cell (p := ⟨w.heap.size, j, none⟩) (by simp), World.cell?_alloc_at _ _ _ _ rfl]
       have x0 : w1.cell? ⟨g, i * 3, none⟩ = some (.string (nth L i).a) := (HR1.out.own.cellAt _ (by omega)).trans (flat_at L i hi).1
       have x1 : w1.cell? ⟨g, i * 3 + 1, none⟩ = some (.int .u64 (nth L i).b) := (HR1.out.own.cellAt _ (by omega)).trans (flat_at L i hi).2.1
       have x2 : w1.cell? ⟨g, i * 3 + 2, none⟩ = some (.int .u8 (nth L i).n) := (HR1.out.own.cellAt _ (by omega)).trans (flat_at L i hi).2.2
       clear a0)
    | (go_at_call 24; refine (HU.out _ _ _ _ HR1.out).mono ?_; rintro e w2 ⟨rfl, f2, hr2, hT2⟩
       have hbk : w2.heap[w.heap.size]? = w1.heap[w.heap.size]? := hT2.keeps (by omega) (by omega) (by have := HR.out.hlb; omega) (fun e => by have := (Ros.own_lt HR.out e).2; omega)
       have u0 : w2.cell? ⟨w.heap.size, 0, none⟩ = some (.string p.a) := (World.cell?_of_block hbk).trans (hbx 0)
       have u1 : w2.cell? ⟨w.heap.size, 1, none⟩ = some (.int .u64 p.b) := (World.cell?_of_block hbk).trans (hbx 1)
       have u2 : w2.cell? ⟨w.heap.size, 2, none⟩ = some (.int .u8 p.n) := (World.cell?_of_block hbk).trans (hbx 2)
       have HR2 : Hid (Ros w2 B rb lb L n1 G1 t0 t1 st (.slice (some ⟨g, 0, none⟩) L.length c) f2) := hr2
       have d0 : w2.cell? ⟨rb, 0, none⟩ = some (.slice (some ⟨g, 0, none⟩) L.length c) := by simp [World.cell?, hr2.blk]
       have y0 : w2.cell? ⟨g, i * 3, none⟩ = some (.string (nth L i).a) := (hr2.own.cellAt _ (by omega)).trans (flat_at L i hi).1
       have y1 : w2.cell? ⟨g, i * 3 + 1, none⟩ = some (.int .u64 (nth L i).b) := (hr2.own.cellAt _ (by omega)).trans (flat_at L i hi).2.1
       have y2 : w2.cell? ⟨g, i * 3 + 2, none⟩ = some (.int .u8 (nth L i).n) := (hr2.own.cellAt _ (by omega)).trans (flat_at L i hi).2.2
       have z0 : w2.frozen? ⟨g, i * 3, none⟩ = false := hr2.own.frozenAt _
       have z1 : w2.frozen? ⟨g, i * 3 + 1, none⟩ = false := hr2.own.frozenAt _
       have z2 : w2.frozen? ⟨g, i * 3 + 2, none⟩ = false := hr2.own.frozenAt _
       clear hr2))
  obtain ⟨hr3, hT3⟩ := Ros.setEntry HR2.out (L' := L.set i p) (by simp) (store3 HR2.out.own i p).2 (store3 HR2.out.own i p).1
  have HR3 := hr3.later (w' := ((((w2.setCell ⟨g, i * 3, none⟩ (.string p.a)).setCell ⟨g, i * 3 + 1, none⟩ (.int .u64 p.b)).setCell ⟨g, i * 3 + 2, none⟩ (.int .u8 p.n))).drew) (Below.refl _ _).drew
  have hT3' := hT3.drew
  have hgw : w.heap.size ≠ g := by omega
  have hbk3 : ((((w2.setCell ⟨g, i * 3, none⟩ (.string p.a)).setCell ⟨g, i * 3 + 1, none⟩ (.int .u64 p.b)).setCell ⟨g, i * 3 + 2, none⟩ (.int .u8 p.n))).drew.heap[w.heap.size]? = w2.heap[w.heap.size]? := hT3'.block _ (by have := hT2.turned.size; omega) hgw
  have j0 := (World.cell?_of_block (a := ⟨w.heap.size, 0, none⟩) hbk3).trans u0
  have j1 := (World.cell?_of_block (a := ⟨w.heap.size, 1, none⟩) hbk3).trans u1
  have j2 := (World.cell?_of_block (a := ⟨w.heap.size, 2, none⟩) hbk3).trans u2
  clear hbk3 hr3 hT3
  go_region
  all_goals (
    generalize ((((w2.setCell ⟨g, i * 3, none⟩ (.string p.a)).setCell ⟨g, i * 3 + 1, none⟩ (.int .u64 p.b)).setCell ⟨g, i * 3 + 2, none⟩ (.int .u8 p.n))).drew = w3 at *
    have HR3' : Hid (Ros w3 B rb lb (L.set i p) n1 G1 t0 t1 st (.slice (some ⟨g, 0, none⟩) (L.set i p).length c) f2) := HR3
    clear HR3
    go_wp2_with (go_at_call 26; refine (HI.out _ _ _ _ HR3'.out).mono ?_; rintro e w4 ⟨rfl, f4, hr4, hT4⟩)
    go_end0
    refine ⟨rfl, _, f4, hr4, ?_⟩
    have S1 : Step rb lb w (.slice (some ⟨g, 0, none⟩) L.length c) f w1 (.slice (some ⟨g, 0, none⟩) L.length c) f := Step.of_below (((Below.refl _ w).alloc (Nat.le_refl _) _).trans (hb1.mono (by simp)))
    have S3 : Step rb lb w2 (.slice (some ⟨g, 0, none⟩) L.length c) f2 w3 (.slice (some ⟨g, 0, none⟩) (L.set i p).length c) f2 :=
      ⟨hT3'.mono (fun k _ hs => .inr (.inr (.inl (by rw [hs]; rfl)))), fun k hk => .inl hk⟩
    exact ((S1.trans hT2).trans S3).trans hT4)
end Go.Proofs.YbulkclxkGreat.del
