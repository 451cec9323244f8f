import Derived.Test.YbulkclxkGreatRelabel
import Derived.BigQuiet
namespace Go.Proofs.YbulkclxkGreat.read
open Go.ChangeShapes Go.WideShapes Go.ChangeAt Go.RowKit
open lab ring maps sup put hold
set_option linter.unusedVariables false

/-- A ring that wants no repair: each entry names a subscriber and bears l(x), x below the ring's length. -/
structure Clean (L : List Pr) (N : Nat → Nat) : Prop where
  pos : 0 < L.length
  le : L.length ≤ 1000
  named : ∀ j, j < L.length → (nth L j).a.toList.isEmpty = false
  small : ∀ j, j < L.length → N j < L.length
  num : ∀ j wx, j < L.length → Calls Ybaz.prog 60 #[.agg #[.int .u64 (nth L j).b, .int .u8 (nth L j).n]] wx fun e w' => e = .returned (.tuple #[.int .u64 (N j), .bool true]) ∧ Below wx.heap.size wx w'

theorem row_of {w : World} {B g c : Nat} {L : List Pr} (h : w.ownsRow B 31 3 (.slice (some ⟨g, 0, none⟩) L.length c) L.length (flat L)) : Row w g L.length (nth L) := fun j hj => by
  have := flat_at L j hj
  exact ⟨(h.cellAt _ (by omega)).trans this.1, (h.cellAt _ (by omega)).trans this.2.1, (h.cellAt _ (by omega)).trans this.2.2⟩

theorem Ros.drew {w : World} {B rb lb n : Nat} {L : List Pr} {G : ByteArray → List (Int × Int)} {t0 t1 st : Int} {v : Value} {f : ByteArray → Option Value} (h : Ros w B rb lb L n G t0 t1 st v f) (k : Nat) :
    Ros (w.drewN k) B rb lb L n G t0 t1 st v f := h.later (below_drewN (Below.refl _ _) _)

set_option maxRecDepth 100000 in
set_option maxHeartbeats 1000000 in
theorem repair_none (B rb lb : Nat) (L : List Pr) (N : Nat → Nat) (G : ByteArray → List (Int × Int)) (t0 t1 st : Int) (v : Value) (f : ByteArray → Option Value) (w : World) (hR : Ros w B rb lb L L.length G t0 t1 st v f) (hC : Clean L N) :
    Calls Ybaz.prog 29 #[.pointer (some ⟨rb, 0, none⟩)] w fun e w' => e = .returned (.slice none 0 0) ∧ Ros w' B rb lb L L.length G t0 t1 st v f ∧ Turned (fun j => j = rb ∨ some j = v.ownBlock) w w' := by
  obtain ⟨g, c, rfl, hBg, hg⟩ := hR.own.form hC.pos
  have hm2 := hC.le
  have hpos := hC.pos
  have c0 : w.cell? ⟨rb, 0, none⟩ = some (.slice (some ⟨g, 0, none⟩) L.length c) := by simp [World.cell?, hR.blk]
  have HC41 : Hid (Calls Ybaz.prog 41 #[.slice (some ⟨g, 0, none⟩) L.length c, .func (.func 33) #[] #[]] w fun e w' => e = .returned (.slice (some ⟨g, 0, none⟩) L.length c) ∧ Below w.heap.size w w') :=
    deleteNone g c L.length (nth L) w hC.le hg (row_of hR.own) hC.named
  have HR : Hid (Ros w B rb lb L L.length G t0 t1 st (.slice (some ⟨g, 0, none⟩) L.length c) f) := hR
  have HC : Hid (Clean L N) := hC
  clear hR hC
  go_enter Ybaz.func29, Ybaz.ntmps29
  go_wp2_with (first
    | (go_at_call 41; refine HC41.out.mono ?_; rintro e w1 ⟨rfl, hb1⟩
       have HR1 := HR.out.later hb1
       have e0 : w1.cell? ⟨rb, 0, none⟩ = some (.slice (some ⟨g, 0, none⟩) L.length c) := by simp [World.cell?, HR1.blk]
       have e1 : w1.frozen? ⟨rb, 0, none⟩ = false := by simp [World.frozen?, HR1.blk]))
  have hgr : w1.grownBy w1 (Value.slice (some ⟨g, 0, none⟩) L.length c).ownBlock := ⟨rfl, rfl, rfl, Nat.le_refl _, fun _ _ _ => rfl⟩
  obtain ⟨HR2, hT2⟩ := HR1.setRing (L' := L) (v' := .slice (some ⟨g, 0, none⟩) L.length c) hgr HR1.own (.inl rfl)
  generalize w1.setCell ⟨rb, 0, none⟩ (.slice (some ⟨g, 0, none⟩) L.length c) = w2 at HR2 hT2 ⊢
  have hT : Turned (fun j => j = rb ∨ some j = (Value.slice (some ⟨g, 0, none⟩) L.length c).ownBlock) w w2 := ((Turned.of_below hb1).mono (fun k hk hs => by omega)).trans hT2
  clear HC41 HR HR1 hT2 hb1 e0 e1 c0 hgr
  have hg2 : g < w2.heap.size := (HR2.own.lt g rfl).2
  have e0 : w2.cell? ⟨rb, 0, none⟩ = some (.slice (some ⟨g, 0, none⟩) L.length c) := by simp [World.cell?, HR2.blk]
  have e1 : w2.cell? ⟨rb, 1, none⟩ = some (.map (some lb)) := by simp [World.cell?, HR2.blk]
  have hlen : ∀ wx ty, Below w2.heap.size w2 wx → (Builtin.len_ #[63] ty #[.map (some lb)]).run Ybaz.prog wx = .ok (.int .i64 L.length) wx := fun wx ty hb => (HR2.map.of_block (hb.block _ HR2.map.lt)).len Ybaz.underlying63 ty
  have hl0 : ∀ ty, (Builtin.len_ #[63] ty #[.map (some lb)]).run Ybaz.prog w2 = .ok (.int .i64 L.length) w2 := fun ty => hlen w2 ty (Below.refl _ _)
  have hl1 : ∀ ty, (Builtin.len_ #[63] ty #[.map (some lb)]).run Ybaz.prog w2.drew = .ok (.int .i64 L.length) w2.drew := fun ty => hlen _ ty (Below.refl _ _).drew
  have hlN : ∀ n ty, (Builtin.len_ #[63] ty #[.map (some lb)]).run Ybaz.prog (w2.drewN n) = .ok (.int .i64 L.length) (w2.drewN n) := fun n ty => hlen _ ty (below_drewN (Below.refl _ _) _)
  have hdl : decide ((L.length : Int) < (L.length : Int)) = false := by simp
  have H2 : Hid (Ros w2 B rb lb L L.length G t0 t1 st (.slice (some ⟨g, 0, none⟩) L.length c) f) := HR2
  have H43 : Hid (∀ wx, Below w2.heap.size w2 wx → Calls Ybaz.prog 43 #[.pointer (some ⟨rb, 0, none⟩)] wx fun e w' => e = .returned (.slice none 0 0) ∧ Below wx.heap.size wx w') := fun wx hb => by
    have hx := HR2.later hb
    exact relabel_none rb g c L.length (nth L) N wx (by simp [World.cell?, hx.blk]) hpos hm2 (row_of hx.own) HC.out.small HC.out.num
  clear hlen HR2
  go_quiet (fail)
  go_wp2_with (go_at_call 43; refine (H43.out _ (below_drewN (Below.refl _ _) _)).mono ?_; rintro e w3 ⟨rfl, hb3⟩)
  have hB3 : Below w2.heap.size w2 w3 := (below_drewN (Below.refl _ w2) nq).trans (hb3.mono (below_drewN (Below.refl w2.heap.size w2) nq).size)
  refine wp_loop_rounds 1 ?_
  rw [rounds_succ]
  go_wp2
  go_ret
  exact ⟨rfl, H2.out.later hB3, hT.trans ((Turned.of_below hB3).mono (fun k hk hs => by omega))⟩

set_option maxRecDepth 100000 in
set_option maxHeartbeats 1000000 in
theorem mend_none (B rb lb : Nat) (L : List Pr) (N : Nat → Nat) (G : ByteArray → List (Int × Int)) (t0 t1 st : Int) (v : Value) (f : ByteArray → Option Value) (topic : ByteArray) (w : World) (hR : Ros w B rb lb L L.length G t0 t1 st v f) (hC : Clean L N) :
    Calls Ybaz.prog 20 #[.pointer (some ⟨rb, 0, none⟩), .string topic] w fun e w' => e = .returned (.slice none 0 0) ∧ Ros w' B rb lb L L.length G t0 t1 st v f ∧ Turned (fun j => j = rb ∨ some j = v.ownBlock) w w' := by
  have H29 : Hid (Calls Ybaz.prog 29 #[.pointer (some ⟨rb, 0, none⟩)] w fun e w' => e = .returned (.slice none 0 0) ∧ Ros w' B rb lb L L.length G t0 t1 st v f ∧ Turned (fun j => j = rb ∨ some j = v.ownBlock) w w') := repair_none B rb lb L N G t0 t1 st v f w hR hC
  clear hR hC
  go_enter Ybaz.func20, Ybaz.ntmps20
  go_wp2_with (go_at_call 29; refine H29.out.mono ?_; rintro e w1 ⟨rfl, hr1, ht1⟩)
  refine wp_loop_rounds 1 ?_
  rw [rounds_succ]
  go_wp2
  go_ret
  exact ⟨rfl, hr1, ht1⟩
end Go.Proofs.YbulkclxkGreat.read
