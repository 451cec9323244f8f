import Derived.Test.YbulkclxkGreatMend
import Derived.Test.YbulkclxkGreatIter
namespace Go.Proofs.YbulkclxkGreat.tick
open Go.ChangeShapes Go.WideShapes Go.ChangeAt Go.RowKit Go.Maps Go.Sort Go.Shelf
open lab ring maps sup put hold read
set_option linter.unusedVariables false

theorem keys_one {D : DataW Value} {s : ByteArray} (h1 : Maps.size D = 1) (h2 : Maps.has D (kl s) = true) : strKeys D = [s.data.toList] := by
  match D, h1, h2 with
  | .map [p], _, h2 =>
    simp only [has_eq, List.any_cons, List.any_nil, Bool.or_false] at h2
    obtain ⟨k, d⟩ := p
    cases k <;> simp [Lit.sameKey] at h2
    simp [strKeys, strOf, h2]

set_option maxRecDepth 100000 in
set_option maxHeartbeats 1000000 in
theorem topics_one (W : World) (sb tb rb lb B n : Nat) (topic : ByteArray) (start : Int) (L : List Pr) (G : ByteArray → List (Int × Int)) (t0 t1 : Int) (w : World) (ht : topic.size ≤ maxLen) (h : St W w sb tb rb lb B topic start L n G t0 t1) :
    Calls Ybaz.prog 19 #[.pointer (some ⟨sb, 0, none⟩)] w fun e w' => ∃ g c, e = .returned (.slice (some ⟨g, 0, none⟩) 1 c) ∧ w'.cell? ⟨g, 0, none⟩ = some (.string topic) ∧ w.heap.size ≤ g ∧ g < w'.heap.size ∧ Below w.heap.size w w' := by
  obtain ⟨D, hown, hsz, _, hhas⟩ := h.tmap.has
  have hk := keys_one hsz (by rw [hhas topic ht]; simp)
  have c0 : w.cell? ⟨sb, 0, none⟩ = some (.map (some tb)) := by simp [World.cell?, h.sblk]
  have HO : Hid (w.ownsMap Ybaz.prog 9 valElem tb 1 D) := hown
  clear h hhas hown
  refine (callsIn_wide (n := 6)).1 ?_
  have hfK : Fence.wide.fn 28 := trivial
  have hfS : Fence.wide.fn 27 := trivial
  refine callsIn_of_wp Ybaz.func19 rfl trivial ?_ rfl
  simp only [Ybaz.ntmps19, List.size_toArray, List.length_cons, List.length_nil, Nat.reduceAdd, Nat.reduceSub, Array.replicate_succ, Array.replicate_zero, List.push_toArray, List.append_toArray, List.nil_append, List.cons_append]
  gi_wp2_with (first
    | (gi_at_call 28; refine (Ybaz.maps_Keys_28 _ _).mono ?_; rintro e w' ⟨rfl, rfl⟩)
    | (gi_at_call 27; refine (Ybaz.slices_Sorted_keys_27_28 tb 1 D valElem w HO.out (by rw [hsz]; unfold maxLen; omega) (by rw [hsz]; omega)).mono ?_; rintro e w' ⟨v, ss, rfl, hS, hrow, hnil, hb⟩))
  go_ret
  rw [hk] at hS
  have hss : ss = [topic.data.toList] := List.perm_singleton.1 hS
  subst hss
  have hsort : ([topic.data.toList].mergeSort (fun x y => decide (x ≤ y))) = [topic.data.toList] := by simp
  rw [hsort] at hrow
  obtain ⟨g, c, rfl, hg1, hg2⟩ := hrow.form (by simp)
  have hcell := hrow.cellAt 0 (by simp)
  refine ⟨g, c, rfl, hcell.trans ?_, by have := hg1; simp at this; omega, hg2, ((Below.refl _ w).alloc (Nat.le_refl _) _).trans (hb.mono (by simp))⟩
  simp [encStr]
end Go.Proofs.YbulkclxkGreat.tick
