import Derived.Test.YbulkclxkGreatTopics
import Derived.Deep.AppendLies
namespace Go.Proofs.YbulkclxkGreat.tick
open Go.ChangeShapes Go.WideShapes Go.ChangeAt Go.RowKit
open lab ring maps sup put hold read
set_option linter.unusedVariables false

theorem info39 : (Ybaz.prog.info? 39).map (fun i => (i.zero, i.size, i.bytes)) = some (some (.agg #[.string ByteArray.empty, .nilIface]), 2, 32) := by kernel_rfl

theorem Ros.setTurn {w : World} {B rb lb n : Nat} {L : List Pr} {G : ByteArray → List (Int × Int)} {t0 t1 st x y : Int} {v : Value} {f : ByteArray → Option Value} (h : Ros w B rb lb L n G t0 t1 st v f) :
    Ros ((w.setCell ⟨rb, 2, none⟩ (.int .u64 x)).setCell ⟨rb, 3, none⟩ (.int .u8 y)) B rb lb L n G x y st v f ∧ Turned (fun j => j = rb) w ((w.setCell ⟨rb, 2, none⟩ (.int .u64 x)).setCell ⟨rb, 3, none⟩ (.int .u8 y)) := by
  have hB := h.hB
  have hrb := h.hrb
  have hlb := h.hlb
  have hlr : lb ≠ rb := by
    intro e
    obtain ⟨es, cl, hbk⟩ := h.map.isMapBlock
    rw [e, h.blk] at hbk; simp at hbk
  have hk : ∀ k, k ≠ rb → ((w.setCell ⟨rb, 2, none⟩ (.int .u64 x)).setCell ⟨rb, 3, none⟩ (.int .u8 y)).heap[k]? = w.heap[k]? := fun k hk => by
    rw [Below.heap_setCell _ _ _ _ hk, Below.heap_setCell _ _ _ _ hk]
  have hsz : ((w.setCell ⟨rb, 2, none⟩ (.int .u64 x)).setCell ⟨rb, 3, none⟩ (.int .u8 y)).heap.size = w.heap.size := by simp [World.setCell]
  refine ⟨{ hB := by rw [hsz]; exact hB, hrb := hrb, hlb := hlb, own := ?_, blk := ?_, map := ?_, keys := h.keys, rows := ?_, sepv := h.sepv, sep := h.sep }, ⟨rfl, rfl, rfl, by rw [hsz]; exact Nat.le_refl _, fun k _ hn => hk k hn⟩⟩
  · exact ownsRow_block h.own (fun g hg => hk g (by have := (h.own.lt g hg).1; omega))
  · have h1 := setCell_at w rb 2 (.int .u64 x) _ _ h.blk
    have h2 := setCell_at _ rb 3 (.int .u8 y) _ _ h1
    refine h2.trans ?_
    simp
  · exact h.map.of_block (hk lb hlr)
  · intro ad
    exact ownsRow_block (h.rows ad) (fun g hg => hk g (by have := ((h.rows ad).lt g hg).1; omega))

set_option maxRecDepth 100000 in
set_option maxHeartbeats 2000000 in
theorem tick_any (W : World) (sb tb rb lb B g c i : Nat) (topic : ByteArray) (start : Int) (L : List Pr) (N : Nat → Nat) (G : ByteArray → List (Int × Int)) (t0 t1 : Int) (C : Array Value) (f : ByteArray → Option Value) (w : World) (ht : topic.size ≤ maxLen)
    (h : St W w sb tb rb lb B topic start L L.length G t0 t1) (hr : Ros w B rb lb L L.length G t0 t1 start (.slice (some ⟨g, 0, none⟩) L.length c) f) (hC : read.Clean L N) (hi : i < L.length)
    (hnext : ∀ wx, Ros wx B rb lb L L.length G t0 t1 start (.slice (some ⟨g, 0, none⟩) L.length c) f → Calls Ybaz.prog 21 #[.pointer (some ⟨rb, 0, none⟩), .agg #[.int .u64 t0, .int .u8 t1]] wx fun e w' => e = .returned (.int .i64 i) ∧ Below wx.heap.size wx w')
    (hcfg : ∀ wx, Ros wx B rb lb L L.length G (nth L i).b (nth L i).n start (.slice (some ⟨g, 0, none⟩) L.length c) f → Calls Ybaz.prog 22 #[.pointer (some ⟨rb, 0, none⟩), .string topic, .int .i64 i, .bool true] wx fun e w' => e = .returned (.agg #[.string (nth L i).a, .iface 41 (.agg C)]) ∧ Below wx.heap.size wx w') :
    Calls Ybaz.prog 10 #[.pointer (some ⟨sb, 0, none⟩), .pointer none] w fun e w' => ∃ g' c', e = .returned (.slice (some ⟨g', 0, none⟩) 1 c') ∧ w'.cell? ⟨g', 0, none⟩ = some (.string (nth L i).a) ∧ w'.cell? ⟨g', 1, none⟩ = some (.iface 41 (.agg C)) ∧
      Ros w' B rb lb L L.length G (nth L i).b (nth L i).n start (.slice (some ⟨g, 0, none⟩) L.length c) f ∧ Turned (fun j => j = rb ∨ j = g) w w' := by
  obtain ⟨i0, hi0, hz0, hzs, hzb⟩ := info_parts info39
  have hz := h.szW
  have HT : Hid (Calls Ybaz.prog 19 #[.pointer (some ⟨sb, 0, none⟩)] w fun e w' => ∃ g c, e = .returned (.slice (some ⟨g, 0, none⟩) 1 c) ∧ w'.cell? ⟨g, 0, none⟩ = some (.string topic) ∧ w.heap.size ≤ g ∧ g < w'.heap.size ∧ Below w.heap.size w w') := topics_one W sb tb rb lb B _ topic start L G t0 t1 w ht h
  have HS : Hid (St W w sb tb rb lb B topic start L L.length G t0 t1) := h
  have HR : Hid (Ros w B rb lb L L.length G t0 t1 start (.slice (some ⟨g, 0, none⟩) L.length c) f) := hr
  have HN : Hid (∀ wx, Ros wx B rb lb L L.length G t0 t1 start (.slice (some ⟨g, 0, none⟩) L.length c) f → Calls Ybaz.prog 21 #[.pointer (some ⟨rb, 0, none⟩), .agg #[.int .u64 t0, .int .u8 t1]] wx fun e w' => e = .returned (.int .i64 i) ∧ Below wx.heap.size wx w') := hnext
  have HG : Hid (∀ wx, Ros wx B rb lb L L.length G (nth L i).b (nth L i).n start (.slice (some ⟨g, 0, none⟩) L.length c) f → Calls Ybaz.prog 22 #[.pointer (some ⟨rb, 0, none⟩), .string topic, .int .i64 i, .bool true] wx fun e w' => e = .returned (.agg #[.string (nth L i).a, .iface 41 (.agg C)]) ∧ Below wx.heap.size wx w') := hcfg
  have HC : Hid (read.Clean L N) := hC
  have hL1 := hC.pos
  have hL2 := hC.le
  clear h hr hnext hcfg hC
  go_enter Ybaz.func10, Ybaz.ntmps10
  go_wp2_with (first
    | (go_at_call 19; refine HT.out.mono ?_; rintro e w1 ⟨gt, ct, rfl, htc, hgt1, hgt2, hb1⟩
       have s0 : w1.cell? ⟨sb, 0, none⟩ = some (.map (some tb)) := by simp [World.cell?, (HS.out.later hb1).sblk]
       have hl1 : (Instr.lookup 53 (.map (some tb)) (.string topic) false).run Ybaz.prog w1 = .ok (.pointer (some ⟨rb, 0, none⟩)) w1 := by
         rw [(HS.out.later hb1).tmap.lookup Ybaz.underlying53 (z := .pointer none) (by kernel_rfl) topic ht]; simp))
  refine wp_loop_rounds 2 ?_
  rw [rounds_succ]
  go_wp2_with (first
    | (go_at_call 20; refine (mend_none B rb lb L N G t0 t1 start _ f topic w1 (HR.out.later hb1) HC.out).mono ?_; rintro e w2 ⟨rfl, hr2, ht2⟩
       have e0 : w2.cell? ⟨rb, 0, none⟩ = some (.slice (some ⟨g, 0, none⟩) L.length c) := by simp [World.cell?, hr2.blk]
       have e2 : w2.cell? ⟨rb, 2, none⟩ = some (.int .u64 t0) := by simp [World.cell?, hr2.blk]
       have e3 : w2.cell? ⟨rb, 3, none⟩ = some (.int .u8 t1) := by simp [World.cell?, hr2.blk]
       have H2 : Hid (Ros w2 B rb lb L L.length G t0 t1 start (.slice (some ⟨g, 0, none⟩) L.length c) f) := hr2
       clear hr2))
  go_wp2_with (first
    | (go_at_call 21; refine (HN.out w2 H2.out).mono ?_; rintro e w3 ⟨rfl, hb3⟩
       have hr3 := H2.out.later hb3
       obtain ⟨x0, x1, x2⟩ := (row_of hr3.own) i hi
       have f0 : w3.cell? ⟨rb, 0, none⟩ = some (.slice (some ⟨g, 0, none⟩) L.length c) := by simp [World.cell?, hr3.blk]
       have f2 : w3.cell? ⟨rb, 2, none⟩ = some (.int .u64 t0) := by simp [World.cell?, hr3.blk]
       have f3 : w3.cell? ⟨rb, 3, none⟩ = some (.int .u8 t1) := by simp [World.cell?, hr3.blk]
       have z2 : w3.frozen? ⟨rb, 2, none⟩ = false := by simp [World.frozen?, hr3.blk]
       have z3 : w3.frozen? ⟨rb, 3, none⟩ = false := by simp [World.frozen?, hr3.blk]
       obtain ⟨hr4, ht4⟩ := Ros.setTurn (x := (nth L i).b) (y := (nth L i).n) hr3
       have H4 : Hid (Ros ((w3.setCell ⟨rb, 2, none⟩ (.int .u64 (nth L i).b)).setCell ⟨rb, 3, none⟩ (.int .u8 (nth L i).n)) B rb lb L L.length G (nth L i).b (nth L i).n start (.slice (some ⟨g, 0, none⟩) L.length c) f) := hr4
       have i1 : (i : Int) < (L.length : Int) := by omega
       clear hr3 hr4)
    | (go_at_call 22; refine (HG.out _ H4.out).mono ?_; rintro e w5 ⟨rfl, hb5⟩
       have H5 : Hid (Ros w5 B rb lb L L.length G (nth L i).b (nth L i).n start (.slice (some ⟨g, 0, none⟩) L.length c) f) := H4.out.later hb5)
    | (at_builtin; refine wpList_append_lies _ rfl (.tmp 56) (.tmp 61) 34 rfl w5.heap.size 39 i0 _ 2 32 Ybaz.underlying34 hi0 hz0 hzs hzb rfl (by decide) (.slice none 0 0) 0 [] rfl ⟨rfl, .inl ⟨rfl, rfl⟩⟩ ⟨w5.heap.size, 0, none⟩ 1 1 [.string (nth L i).a, .iface 41 (.agg C)] rfl rfl (World.news_of_block (cs := #[.string (nth L i).a, .iface 41 (.agg C)]) (t := 39) (fr := (0, 0)) (heap_alloc_new _ _)) (by simp [Value.oneCell']) (by omega) (by unfold maxLen; omega) (by omega) (by simp) (w5.heap.size + 1) (by simp) ?_; intro g' c' w6 hown6 hgrow6 hat6 hlt6))
  rw [rounds_succ]
  go_wp2
  go_ret
  have hb6 : Below w5.heap.size w5 w6 := ((Below.refl _ w5).alloc (Nat.le_refl _) _).grown hgrow6 (by simp) (fun k hk => by cases hk)
  refine ⟨g', c', rfl, (hown6.cellAt 0 (by omega)).trans rfl, (hown6.cellAt 1 (by omega)).trans rfl, H5.out.later hb6, ?_⟩
  have T1 : Turned (fun j => j = rb ∨ j = g) w w1 := (Turned.of_below hb1).mono (fun k hk hs => by omega)
  have T2 : Turned (fun j => j = rb ∨ j = g) w1 w2 := ht2.mono (fun k hk hs => by
    rcases hs with e | e
    · exact .inl e
    · right; simpa [Value.ownBlock] using e)
  have T3 : Turned (fun j => j = rb ∨ j = g) w2 w3 := (Turned.of_below hb3).mono (fun k hk hs => by omega)
  have T4 := ht4.mono (T := fun j => j = rb ∨ j = g) (fun k hk hs => .inl hs)
  have T5 := (Turned.of_below hb5).mono (T := fun j => j = rb ∨ j = g) (fun k hk hs => by omega)
  have T6 : Turned (fun j => j = rb ∨ j = g) w5 w6 := (Turned.of_below hb6).mono (fun k hk hs => by omega)
  exact ((((T1.trans T2).trans T3).trans T4).trans T5).trans T6
end Go.Proofs.YbulkclxkGreat.tick
