import Derived.Test.YbulkclxkGreatRead
import Derived.Deep.DeepCutAuto
import Derived.BigQuiet
namespace Go.Proofs.YbulkclxkGreat.read
open Go.ChangeShapes Go.WideShapes Go.ChangeAt Go.RowKit
open lab ring maps sup put hold
set_option linter.unusedVariables false

def cfg (topic : ByteArray) (l : Pr) (b n : Int) (r : Pr) (start : Int) (turn : Bool) : Array Value :=
  #[.string topic, .string l.a, .int .u64 l.b, .int .u8 l.n, .int .u64 b, .int .u8 n, .string r.a, .int .u64 r.b, .int .u8 r.n, .int .u64 start, .bool turn]

def zz : Array Value := #[.string ⟨#[]⟩, .string ⟨#[]⟩, .int .u64 0, .int .u8 0, .int .u64 0, .int .u8 0, .string ⟨#[]⟩, .int .u64 0, .int .u8 0, .int .u64 0, .bool false]
def Box (w : World) (b : Nat) (cs : Array Value) : Prop := ∀ k, w.cell? ⟨b, k, none⟩ = cs[k]? ∧ w.frozen? ⟨b, k, none⟩ = false
theorem box_facts {w : World} {b : Nat} (h : w.heap[b]? = some (.cells zz 41 (0, 0))) :
    (w.cell? ⟨b, 0, none⟩ = some (.string ⟨#[]⟩) ∧ w.cell? ⟨b, 1, none⟩ = some (.string ⟨#[]⟩) ∧ w.cell? ⟨b, 2, none⟩ = some (.int .u64 0) ∧ w.cell? ⟨b, 3, none⟩ = some (.int .u8 0) ∧ w.cell? ⟨b, 4, none⟩ = some (.int .u64 0) ∧ w.cell? ⟨b, 5, none⟩ = some (.int .u8 0) ∧ w.cell? ⟨b, 6, none⟩ = some (.string ⟨#[]⟩) ∧ w.cell? ⟨b, 7, none⟩ = some (.int .u64 0) ∧ w.cell? ⟨b, 8, none⟩ = some (.int .u8 0) ∧ w.cell? ⟨b, 9, none⟩ = some (.int .u64 0) ∧ w.cell? ⟨b, 10, none⟩ = some (.bool false)) ∧
    (w.frozen? ⟨b, 0, none⟩ = false ∧ w.frozen? ⟨b, 1, none⟩ = false ∧ w.frozen? ⟨b, 2, none⟩ = false ∧ w.frozen? ⟨b, 3, none⟩ = false ∧ w.frozen? ⟨b, 4, none⟩ = false ∧ w.frozen? ⟨b, 5, none⟩ = false ∧ w.frozen? ⟨b, 6, none⟩ = false ∧ w.frozen? ⟨b, 7, none⟩ = false ∧ w.frozen? ⟨b, 8, none⟩ = false ∧ w.frozen? ⟨b, 9, none⟩ = false ∧ w.frozen? ⟨b, 10, none⟩ = false) := by
  simp [World.cell?, World.frozen?, h, zz]

theorem set11 {wy : World} {b : Nat} {v0 v1 v2 v3 v4 v5 v6 v7 v8 v9 v10 : Value} (h : wy.heap[b]? = some (.cells zz 41 (0, 0))) :
    ((World.setCell (World.setCell (World.setCell (World.setCell (World.setCell (World.setCell (World.setCell (World.setCell (World.setCell (World.setCell (World.setCell wy ⟨b, 0, none⟩ v0) ⟨b, 1, none⟩ v1) ⟨b, 2, none⟩ v2) ⟨b, 3, none⟩ v3) ⟨b, 4, none⟩ v4) ⟨b, 5, none⟩ v5) ⟨b, 6, none⟩ v6) ⟨b, 7, none⟩ v7) ⟨b, 8, none⟩ v8) ⟨b, 9, none⟩ v9) ⟨b, 10, none⟩ v10)).heap[b]? = some (.cells #[v0, v1, v2, v3, v4, v5, v6, v7, v8, v9, v10] 41 (0, 0)) := by
  have h0 := setCell_at _ b 0 v0 _ _ h
  have h1 := setCell_at _ b 1 v1 _ _ h0
  have h2 := setCell_at _ b 2 v2 _ _ h1
  have h3 := setCell_at _ b 3 v3 _ _ h2
  have h4 := setCell_at _ b 4 v4 _ _ h3
  have h5 := setCell_at _ b 5 v5 _ _ h4
  have h6 := setCell_at _ b 6 v6 _ _ h5
  have h7 := setCell_at _ b 7 v7 _ _ h6
  have h8 := setCell_at _ b 8 v8 _ _ h7
  have h9 := setCell_at _ b 9 v9 _ _ h8
  have h10 := setCell_at _ b 10 v10 _ _ h9
  refine h10.trans ?_
  simp [zz]

theorem set11_below {B : Nat} {W0 wy : World} {b : Nat} (h : Below B W0 wy) (hb : B ≤ b) (v0 v1 v2 v3 v4 v5 v6 v7 v8 v9 v10 : Value) : Below B W0 (World.setCell (World.setCell (World.setCell (World.setCell (World.setCell (World.setCell (World.setCell (World.setCell (World.setCell (World.setCell (World.setCell wy ⟨b, 0, none⟩ v0) ⟨b, 1, none⟩ v1) ⟨b, 2, none⟩ v2) ⟨b, 3, none⟩ v3) ⟨b, 4, none⟩ v4) ⟨b, 5, none⟩ v5) ⟨b, 6, none⟩ v6) ⟨b, 7, none⟩ v7) ⟨b, 8, none⟩ v8) ⟨b, 9, none⟩ v9) ⟨b, 10, none⟩ v10) := by
  exact (((((((((((h.setCell hb v0).setCell hb v1).setCell hb v2).setCell hb v3).setCell hb v4).setCell hb v5).setCell hb v6).setCell hb v7).setCell hb v8).setCell hb v9).setCell hb v10)

theorem box_new {B : Nat} {W0 wy : World} {cs : Array Value} (hS : Below B W0 (wy.alloc (.cells cs 41))) : (wy.alloc (.cells cs 41)).heap[wy.heap.size]? = some (.cells cs 41 (0, 0)) := heap_alloc_new _ _

theorem cfg_facts {w : World} {b : Nat} {topic : ByteArray} {l : Pr} {x n : Int} {r : Pr} {start : Int} {turn : Bool} (h : w.heap[b]? = some (.cells (cfg topic l x n r start turn) 41 (0, 0))) :
    w.cell? ⟨b, 0, none⟩ = some (.string topic) ∧ w.cell? ⟨b, 1, none⟩ = some (.string l.a) ∧ w.cell? ⟨b, 2, none⟩ = some (.int .u64 l.b) ∧ w.cell? ⟨b, 3, none⟩ = some (.int .u8 l.n) ∧ w.cell? ⟨b, 4, none⟩ = some (.int .u64 x) ∧ w.cell? ⟨b, 5, none⟩ = some (.int .u8 n) ∧ w.cell? ⟨b, 6, none⟩ = some (.string r.a) ∧ w.cell? ⟨b, 7, none⟩ = some (.int .u64 r.b) ∧ w.cell? ⟨b, 8, none⟩ = some (.int .u8 r.n) ∧ w.cell? ⟨b, 9, none⟩ = some (.int .u64 start) ∧ w.cell? ⟨b, 10, none⟩ = some (.bool turn) := by
  simp [World.cell?, h, cfg]

set_option maxRecDepth 100000 in
set_option maxHeartbeats 4000000 in
theorem config_any (rb g c m i : Nat) (P : Nat → Pr) (l r : Pr) (topic : ByteArray) (start : Int) (turn : Bool) (w : World) (h0 : w.cell? ⟨rb, 0, none⟩ = some (.slice (some ⟨g, 0, none⟩) m c)) (h5 : w.cell? ⟨rb, 5, none⟩ = some (.int .u64 start)) (hm2 : m < 100000) (hi : i < m) (hP : Row w g m P)
    (hl : ∀ wx, Below w.heap.size w wx → Calls Ybaz.prog 31 #[.pointer (some ⟨rb, 0, none⟩), .int .i64 i, .int .i64 (-1)] wx fun e w' => e = .returned (.agg #[.string l.a, .int .u64 l.b, .int .u8 l.n]) ∧ Below wx.heap.size wx w')
    (hr : ∀ wx, Below w.heap.size w wx → Calls Ybaz.prog 31 #[.pointer (some ⟨rb, 0, none⟩), .int .i64 i, .int .i64 1] wx fun e w' => e = .returned (.agg #[.string r.a, .int .u64 r.b, .int .u8 r.n]) ∧ Below wx.heap.size wx w') :
    Calls Ybaz.prog 22 #[.pointer (some ⟨rb, 0, none⟩), .string topic, .int .i64 i, .bool turn] w fun e w' => e = .returned (.agg #[.string (P i).a, .iface 41 (.agg (cfg topic l (P i).b (P i).n r start turn))]) ∧ Below w.heap.size w w' := by
  have hrb : rb < w.heap.size := World.block_lt_of_cell? _ _ h0
  obtain ⟨c0, c1, c2⟩ := hP i hi
  have hg : g < w.heap.size := World.block_lt_of_cell? _ _ c0
  have HB : Hid (∀ wx, Below (w.heap.size + 1) (w.alloc (.cells #[.string ⟨#[]⟩, .nilIface] 39)) wx → Below w.heap.size w wx) := fun wx hb => ((Below.refl _ w).alloc (Nat.le_refl _) _).trans (hb.mono (by omega))
  have HL : Hid (∀ wx, Below (w.heap.size + 1) (w.alloc (.cells #[.string ⟨#[]⟩, .nilIface] 39)) wx → Calls Ybaz.prog 31 #[.pointer (some ⟨rb, 0, none⟩), .int .i64 i, .int .i64 (-1)] wx fun e w' => e = .returned (.agg #[.string l.a, .int .u64 l.b, .int .u8 l.n]) ∧ Below (w.heap.size + 1) (w.alloc (.cells #[.string ⟨#[]⟩, .nilIface] 39)) w' ∧ Below wx.heap.size wx w') :=
    fun wx hb => (hl wx (HB.out wx hb)).mono fun e w' h => ⟨h.1, hb.trans (h.2.mono (by have := hb.size; simp at this; omega)), h.2⟩
  have HR : Hid (∀ wx, Below (w.heap.size + 1) (w.alloc (.cells #[.string ⟨#[]⟩, .nilIface] 39)) wx → Calls Ybaz.prog 31 #[.pointer (some ⟨rb, 0, none⟩), .int .i64 i, .int .i64 1] wx fun e w' => e = .returned (.agg #[.string r.a, .int .u64 r.b, .int .u8 r.n]) ∧ Below (w.heap.size + 1) (w.alloc (.cells #[.string ⟨#[]⟩, .nilIface] 39)) w' ∧ Below wx.heap.size wx w') :=
    fun wx hb => (hr wx (HB.out wx hb)).mono fun e w' h => ⟨h.1, hb.trans (h.2.mono (by have := hb.size; simp at this; omega)), h.2⟩
  have KS : Hid (∀ wx, Below (w.heap.size + 1) (w.alloc (.cells #[.string ⟨#[]⟩, .nilIface] 39)) wx → (Below (w.heap.size + 1) (w.alloc (.cells #[.string ⟨#[]⟩, .nilIface] 39)) wx ∧ wx.cell? ⟨rb, 0, none⟩ = some (.slice (some ⟨g, 0, none⟩) m c) ∧ wx.cell? ⟨rb, 5, none⟩ = some (.int .u64 start) ∧ wx.cell? ⟨g, i * 3, none⟩ = some (.string (P i).a) ∧ wx.cell? ⟨g, i * 3 + 1, none⟩ = some (.int .u64 (P i).b) ∧ wx.cell? ⟨g, i * 3 + 2, none⟩ = some (.int .u8 (P i).n))) :=
    fun wx hb => ⟨hb, ((HB.out wx hb).cell (p := ⟨rb, 0, none⟩) hrb).trans h0, ((HB.out wx hb).cell (p := ⟨rb, 5, none⟩) hrb).trans h5, ((HB.out wx hb).cell (p := ⟨g, i * 3, none⟩) hg).trans c0, ((HB.out wx hb).cell (p := ⟨g, i * 3 + 1, none⟩) hg).trans c1, ((HB.out wx hb).cell (p := ⟨g, i * 3 + 2, none⟩) hg).trans c2⟩
  have hi' : (i : Int) < (m : Int) := by omega
  have HB1 : Hid (∀ o0 wx, Below ((w.alloc o0).alloc (.cells #[.string ⟨#[]⟩, .string ⟨#[]⟩, .int .u64 0, .int .u8 0, .int .u64 0, .int .u8 0, .string ⟨#[]⟩, .int .u64 0, .int .u8 0, .int .u64 0, .bool false] 41)).drew.heap.size ((w.alloc o0).alloc (.cells #[.string ⟨#[]⟩, .string ⟨#[]⟩, .int .u64 0, .int .u8 0, .int .u64 0, .int .u8 0, .string ⟨#[]⟩, .int .u64 0, .int .u8 0, .int .u64 0, .bool false] 41)).drew wx → wx.heap[w.heap.size + 1]? = some (.cells zz 41 (0, 0))) := by
    intro o0 wx hb
    refine (hb.block _ (by simp)).trans ?_
    have := heap_alloc_new (w.alloc o0) (.cells zz 41 (0, 0))
    rwa [World.size_alloc] at this
  have HB2 : Hid (∀ (wy wx : World), Below (wy.alloc (.cells #[.string ⟨#[]⟩, .string ⟨#[]⟩, .int .u64 0, .int .u8 0, .int .u64 0, .int .u8 0, .string ⟨#[]⟩, .int .u64 0, .int .u8 0, .int .u64 0, .bool false] 41)).heap.size (wy.alloc (.cells #[.string ⟨#[]⟩, .string ⟨#[]⟩, .int .u64 0, .int .u8 0, .int .u64 0, .int .u8 0, .string ⟨#[]⟩, .int .u64 0, .int .u8 0, .int .u64 0, .bool false] 41)) wx → wx.heap[wy.heap.size]? = some (.cells zz 41 (0, 0))) := by
    intro wy wx hb
    exact (hb.block _ (by simp)).trans (heap_alloc_new wy (.cells zz 41 (0, 0)))
  have HB3 : Hid (∀ (wy wx : World) (b : Nat), Below wy.heap.size wy wx → wy.heap[b]? = some (Obj.cells zz 41 (0, 0)) → wx.heap[b]? = some (Obj.cells zz 41 (0, 0))) := by
    intro wy wx b hb h
    exact (hb.block _ (Array.getElem?_eq_some_iff.1 h).1).trans h
  have HBa : Hid (∀ o', Below (w.heap.size + 1) (w.alloc (.cells #[.string ⟨#[]⟩, .nilIface] 39)) ((w.alloc (.cells #[.string ⟨#[]⟩, .nilIface] 39)).alloc o').drew) := fun o' => ((Below.refl _ _).alloc (by simp) _).drew
  have HBb : Hid (∀ (wy : World) o, Below (w.heap.size + 1) (w.alloc (.cells #[.string ⟨#[]⟩, .nilIface] 39)) wy → Below (w.heap.size + 1) (w.alloc (.cells #[.string ⟨#[]⟩, .nilIface] 39)) (wy.alloc o)) := fun wy o h => h.alloc (by have := h.size; simp at this; omega) _
  have hsz : ∀ wy, Below (w.heap.size + 1) (w.alloc (.cells #[.string ⟨#[]⟩, .nilIface] 39)) wy → w.heap.size + 1 ≤ wy.heap.size := fun wy h => by have := h.size; simpa using this
  have HSZ : Hid (∀ wy, Below (w.heap.size + 1) (w.alloc (.cells #[.string ⟨#[]⟩, .nilIface] 39)) wy → w.heap.size + 1 ≤ wy.heap.size) := hsz
  clear hl hr hP hsz
  go_enter Ybaz.func22, Ybaz.ntmps22
  go_upto_region 1 with fail
  go_cut [9] (fun p wx => ∃ b, p = .pointer (some ⟨b, 0, none⟩) ∧ w.heap.size + 1 ≤ b ∧ Below (w.heap.size + 1) (w.alloc (.cells #[.string ⟨#[]⟩, .nilIface] 39)) wx ∧ wx.heap[b]? = some (.cells (cfg topic l (P i).b (P i).n r start turn) 41 (0, 0)))
  case first =>
    go_region_held3 (fun w' => Below (w.heap.size + 1) (w.alloc (.cells #[.string ⟨#[]⟩, .nilIface] 39)) w' ∧ w'.cell? ⟨rb, 0, none⟩ = some (.slice (some ⟨g, 0, none⟩) m c) ∧ w'.cell? ⟨rb, 5, none⟩ = some (.int .u64 start) ∧ w'.cell? ⟨g, i * 3, none⟩ = some (.string (P i).a) ∧ w'.cell? ⟨g, i * 3 + 1, none⟩ = some (.int .u64 (P i).b) ∧ w'.cell? ⟨g, i * 3 + 2, none⟩ = some (.int .u8 (P i).n))
      ((refine KS.out _ ?_; first
        | with_reducible assumption
        | with_reducible exact (Below.refl _ _).drew
        | with_reducible exact HBa.out _
        | with_reducible exact HBb.out _ _ hL1
        | with_reducible exact HBb.out _ _ hR1
        | with_reducible refine set11_below hL1 ?_ _ _ _ _ _ _ _ _ _ _ _; first | exact Nat.le_refl _ | exact HSZ.out _ hL1 | exact HSZ.out _ hR1
        | with_reducible refine set11_below hR1 ?_ _ _ _ _ _ _ _ _ _ _ _; first | exact Nat.le_refl _ | exact HSZ.out _ hL1 | exact HSZ.out _ hR1))
      (first
        | (go_at_call 31; (with_reducible show Calls _ _ #[_, _, Value.int IntKind.i64 (-1)] _ _); refine (HL.out _ (And.left (by with_reducible assumption))).mono ?_; rintro e wl ⟨rfl, hL1, hL2⟩
           first
            | (have hbL := HB1.out _ _ (by with_reducible exact hL2)
               have hfL := box_facts hbL)
            | (have hbL := HB2.out _ _ (by with_reducible exact hL2)
               have hfL := box_facts hbL)
            | (have hbL := HB3.out _ _ _ (by with_reducible exact hL2) hbR
               have hfL := box_facts hbL)
            | skip)
        | (go_at_call 31; (with_reducible show Calls _ _ #[_, _, Value.int IntKind.i64 1] _ _); refine (HR.out _ (And.left (by with_reducible assumption))).mono ?_; rintro e wr ⟨rfl, hR1, hR2⟩
           first
            | (have hbR := HB1.out _ _ (by with_reducible exact hR2)
               have hfR := box_facts hbR)
            | (have hbR := HB2.out _ _ (by with_reducible exact hR2)
               have hfR := box_facts hbR)
            | (have hbR := HB3.out _ _ _ (by with_reducible exact hR2) hbL
               have hfR := box_facts hbR)
            | skip))
    all_goals (
      go_wp2_with fail
      go_meet
      refine ⟨_, rfl, ?_, And.left (by with_reducible assumption), ?_⟩
      · first | exact Nat.le_refl _ | exact HSZ.out _ hL1 | exact HSZ.out _ hR1
      · unfold cfg
        first | (with_reducible exact set11 hbR) | (with_reducible exact set11 hbL) | (with_reducible exact heap_alloc_new _ _))
  case rest =>
    obtain ⟨b, rfl, hb, hB, hbox⟩ := hcut
    obtain ⟨_, s0, _, s2, s3, s4⟩ := KS.out _ hB
    have hcf := cfg_facts hbox
    have hres : wc.heap[w.heap.size]? = some (.cells #[.string ⟨#[]⟩, .nilIface] 39 (0, 0)) := (hB.block _ (by omega)).trans (heap_alloc_new w _)
    have r0 : wc.cell? ⟨w.heap.size, 0, none⟩ = some (.string ⟨#[]⟩) := by simp [World.cell?, hres]
    have r1 : wc.cell? ⟨w.heap.size, 1, none⟩ = some .nilIface := by simp [World.cell?, hres]
    have f0 : wc.frozen? ⟨w.heap.size, 0, none⟩ = false := by simp [World.frozen?, hres]
    have f1 : wc.frozen? ⟨w.heap.size, 1, none⟩ = false := by simp [World.frozen?, hres]
    have KS2 : Hid (∀ w' : World, (∀ k, k ≠ w.heap.size → w'.heap[k]? = wc.heap[k]?) → ((w'.cell? ⟨rb, 0, none⟩ = some (.slice (some ⟨g, 0, none⟩) m c) ∧ w'.cell? ⟨g, i * 3, none⟩ = some (.string (P i).a)) ∧ w'.cell? ⟨b, 0, none⟩ = some (.string topic) ∧ w'.cell? ⟨b, 1, none⟩ = some (.string l.a) ∧ w'.cell? ⟨b, 2, none⟩ = some (.int .u64 l.b) ∧ w'.cell? ⟨b, 3, none⟩ = some (.int .u8 l.n) ∧ w'.cell? ⟨b, 4, none⟩ = some (.int .u64 (P i).b) ∧ w'.cell? ⟨b, 5, none⟩ = some (.int .u8 (P i).n) ∧ w'.cell? ⟨b, 6, none⟩ = some (.string r.a) ∧ w'.cell? ⟨b, 7, none⟩ = some (.int .u64 r.b) ∧ w'.cell? ⟨b, 8, none⟩ = some (.int .u8 r.n) ∧ w'.cell? ⟨b, 9, none⟩ = some (.int .u64 start) ∧ w'.cell? ⟨b, 10, none⟩ = some (.bool turn))) := fun w' h =>
      ⟨⟨(World.cell?_of_block (h rb (by omega))).trans s0, (World.cell?_of_block (h g (by omega))).trans s2⟩, cfg_facts ((h b (by omega)).trans hbox)⟩
    have HS2 : Hid (∀ x y k, k ≠ w.heap.size → ((wc.setCell ⟨w.heap.size, 0, none⟩ x).setCell ⟨w.heap.size, 1, none⟩ y).drew.heap[k]? = wc.heap[k]?) := fun x y k hk => by
      show (World.setCell (World.setCell wc _ _) _ _).heap[k]? = _
      rw [Below.heap_setCell _ _ _ _ hk, Below.heap_setCell _ _ _ _ hk]
    clear hcf
    go_wp2_with fail
    go_region_held3 (fun w' => (w'.cell? ⟨rb, 0, none⟩ = some (.slice (some ⟨g, 0, none⟩) m c) ∧ w'.cell? ⟨g, i * 3, none⟩ = some (.string (P i).a)) ∧ w'.cell? ⟨b, 0, none⟩ = some (.string topic) ∧ w'.cell? ⟨b, 1, none⟩ = some (.string l.a) ∧ w'.cell? ⟨b, 2, none⟩ = some (.int .u64 l.b) ∧ w'.cell? ⟨b, 3, none⟩ = some (.int .u8 l.n) ∧ w'.cell? ⟨b, 4, none⟩ = some (.int .u64 (P i).b) ∧ w'.cell? ⟨b, 5, none⟩ = some (.int .u8 (P i).n) ∧ w'.cell? ⟨b, 6, none⟩ = some (.string r.a) ∧ w'.cell? ⟨b, 7, none⟩ = some (.int .u64 r.b) ∧ w'.cell? ⟨b, 8, none⟩ = some (.int .u8 r.n) ∧ w'.cell? ⟨b, 9, none⟩ = some (.int .u64 start) ∧ w'.cell? ⟨b, 10, none⟩ = some (.bool turn))
      ((refine KS2.out _ ?_; first
        | exact HS2.out _ _
        | (intro k _; rfl)))
      (fail)
    go_wp2
    have q : ∀ x y, ((wc.setCell ⟨w.heap.size, 0, none⟩ x).setCell ⟨w.heap.size, 1, none⟩ y).heap[w.heap.size]? = some (.cells #[x, y] 39 (0, 0)) := fun x y => by
      have h1 := setCell_at wc w.heap.size 0 x _ _ hres
      have h2 := setCell_at _ w.heap.size 1 y _ _ h1
      refine h2.trans ?_
      simp
    have q0 : ∀ x y, ((wc.setCell ⟨w.heap.size, 0, none⟩ x).setCell ⟨w.heap.size, 1, none⟩ y).cell? ⟨w.heap.size, 0, none⟩ = some x := fun x y => by simp only [World.cell?, q]; rfl
    have q1 : ∀ x y, ((wc.setCell ⟨w.heap.size, 0, none⟩ x).setCell ⟨w.heap.size, 1, none⟩ y).cell? ⟨w.heap.size, 1, none⟩ = some y := fun x y => by simp only [World.cell?, q]; rfl
    refine bodyPost_ret (v := .agg #[.string (P i).a, .iface 41 (.agg (cfg topic l (P i).b (P i).n r start turn))]) (by simp [results, Ybaz.results22, go_sem, q0, q1, cfg]) rfl ⟨rfl, ?_⟩
    exact (((HB.out _ hB).setCell (p := ⟨w.heap.size, 0, none⟩) (Nat.le_refl _) _).setCell (p := ⟨w.heap.size, 1, none⟩) (Nat.le_refl _) _).drew

end Go.Proofs.YbulkclxkGreat.read
