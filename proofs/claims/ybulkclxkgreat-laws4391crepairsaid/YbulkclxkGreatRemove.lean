import Derived.Test.YbulkclxkGreatPut2
import Derived.Test.YbulkclxkGreatDelete
namespace Go.Proofs.YbulkclxkGreat.del
open Go.ChangeShapes Go.WideShapes Go.ChangeAt Go.RowKit
open lab ring maps sup put
set_option linter.unusedVariables false

set_option maxRecDepth 100000 in
set_option maxHeartbeats 1000000 in
theorem remove_any (B rb lb n n1 i : Nat) (L : List Pr) (G G1 : ByteArray → List (Int × Int)) (t0 t1 st : Int) (v : Value) (f : ByteArray → Option Value) (w : World) (hR : Ros w B rb lb L n G t0 t1 st v f)
    (hL : L.length ≤ 1000) (hi : i < L.length) (hU : Sh 24 (nth L i) B rb lb t0 t1 st n n1 G G1) :
    Calls Ybaz.prog 59 #[.pointer (some ⟨rb, 0, none⟩), .int .i64 i] w fun e w' => e = .returned (.tuple #[]) ∧
      (∃ v' f', Ros w' B rb lb (L.take i ++ L.drop (i + 1)) n1 G1 t0 t1 st v' f' ∧ Step rb lb w v f w' v' f') := by
  obtain ⟨g, c, rfl, hBg, hg⟩ := hR.own.form (by omega)
  have HU : Hid (Sh 24 (nth L i) B rb lb t0 t1 st n n1 G G1) := hU
  have HR : Hid (Ros w B rb lb L n G t0 t1 st (.slice (some ⟨g, 0, none⟩) L.length c) f) := hR
  have i1 : (i : Int) < (L.length : Int) := by omega
  have c0 : w.cell? ⟨rb, 0, none⟩ = some (.slice (some ⟨g, 0, none⟩) L.length c) := by simp [World.cell?, hR.blk]
  have x0 : w.cell? ⟨g, i * 3, none⟩ = some (.string (nth L i).a) := (hR.own.cellAt _ (by omega)).trans (flat_at L i hi).1
  have x1 : w.cell? ⟨g, i * 3 + 1, none⟩ = some (.int .u64 (nth L i).b) := (hR.own.cellAt _ (by omega)).trans (flat_at L i hi).2.1
  have x2 : w.cell? ⟨g, i * 3 + 2, none⟩ = some (.int .u8 (nth L i).n) := (hR.own.cellAt _ (by omega)).trans (flat_at L i hi).2.2
  clear hU hR
  go_enter Ybaz.func59, Ybaz.ntmps59
  go_wp2_with (first
    | (go_at_call 24; refine (HU.out _ _ _ _ HR.out).mono ?_; rintro e w1 ⟨rfl, f1, hr1, hT1⟩
       have HR1 : Hid (Ros w1 B rb lb L n1 G1 t0 t1 st (.slice (some ⟨g, 0, none⟩) L.length c) f1) := hr1
       have d0 : w1.cell? ⟨rb, 0, none⟩ = some (.slice (some ⟨g, 0, none⟩) L.length c) := by simp [World.cell?, hr1.blk]
       clear hr1)
    | (go_at_call 79; refine (delete79 B g c L.length i L w1 rfl hL hi HR1.out.own).mono ?_; rintro e w2 ⟨rfl, hown2, hgr2⟩
       have hrb2 : w2.heap[rb]? = w1.heap[rb]? := hgr2.block rb (by have := HR1.out.hrb; have := HR1.out.hB; omega) (by have := HR1.out.hrb; have := (HR1.out.own.lt g rfl).1; simp; omega)
       have e0 : w2.cell? ⟨rb, 0, none⟩ = some (.slice (some ⟨g, 0, none⟩) L.length c) := (World.cell?_of_block (a := ⟨rb, 0, none⟩) hrb2).trans d0
       have e1 : w2.frozen? ⟨rb, 0, none⟩ = false := by simp [World.frozen?, hrb2, HR1.out.blk]))
  go_end0
  have hlen : (L.take i ++ L.drop (i + 1)).length = L.length - 1 := by simp; omega
  obtain ⟨hR2, hT2⟩ := HR1.out.setRing (L' := L.take i ++ L.drop (i + 1)) (v' := .slice (some ⟨g, 0, none⟩) (L.length - 1) c) hgr2 (by rw [hlen]; exact hown2) (.inl rfl)
  refine ⟨rfl, _, f1, hR2, hT1.trans ⟨hT2.mono (fun k _ hs => by rcases hs with e | e; exact .inl e; exact .inr (.inr (.inl e.symm))), fun k hk => .inl ?_⟩⟩
  rcases hk with e | e
  · exact .inl e
  · exact .inr e
end Go.Proofs.YbulkclxkGreat.del
