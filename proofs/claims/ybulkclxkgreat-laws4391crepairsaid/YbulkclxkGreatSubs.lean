import Derived.Test.YbulkclxkGreatRead
import Derived.Deep.AppendLies
import Derived.Lib.SliceRun
namespace Go.Proofs.YbulkclxkGreat.read
open Go.ChangeShapes Go.WideShapes Go.ChangeAt Go.RowKit
open lab ring maps sup put hold
set_option linter.unusedVariables false

set_option maxRecDepth 100000 in
set_option maxHeartbeats 1000000 in
theorem clone_any (B g c : Nat) (L : List Pr) (w : World) (hL : 0 < L.length) (hL2 : L.length ≤ 1000) (hown : w.ownsRow B 31 3 (.slice (some ⟨g, 0, none⟩) L.length c) L.length (flat L)) :
    Calls Ybaz.prog 18 #[.slice (some ⟨g, 0, none⟩) L.length c] w fun e w' => ∃ g' c', e = .returned (.slice (some ⟨g', 0, none⟩) L.length c') ∧ w'.ownsRow w.heap.size 31 3 (.slice (some ⟨g', 0, none⟩) L.length c') L.length (flat L) ∧ Below w.heap.size w w' := by
  obtain ⟨i0, hi0, hz0, hzs, hzb⟩ := info_parts info31
  have hc : ∀ j u, (flat L)[j]? = some u → (w.alloc (.cells #[] 31)).cell? ((⟨g, 0, none⟩ : Addr).add j) = some u := fun j u hj => by
    have h1 := hown.cells (g := g) rfl j u hj
    have e : ((⟨g, 0, none⟩ : Addr).add j) = ⟨g, j, none⟩ := by
      simp [Addr.add]
      exact fun h => h.symm
    rw [e] at h1 ⊢
    rw [World.cell?_alloc_past _ _ _ (hown.lt g rfl).2]; exact h1
  have HC : Hid (∀ j u, (flat L)[j]? = some u → (w.alloc (.cells #[] 31)).cell? ((⟨g, 0, none⟩ : Addr).add j) = some u) := hc
  clear hc
  have hown0 : (w.alloc (.cells #[] 31)).ownsRow w.heap.size 31 3 (.slice (some ⟨w.heap.size, 0, none⟩) 0 0) 0 [] :=
    ⟨rfl, .inr ⟨w.heap.size, 0, #[], rfl, Nat.le_refl _, heap_alloc_new _ _, Nat.le_refl _, by unfold maxLen; omega, rfl, rfl⟩⟩
  have hnil : ∀ wx, (binOp .eql 32 (.slice (some ⟨g, 0, none⟩) L.length c) (.slice none 0 0)).run Ybaz.prog wx = .ok (.bool false) wx := fun wx => Lib.run_eql_slice_nil wx 32 _ _ _ _ 0 0 Ybaz.underlying32
  go_enter Ybaz.func18, Ybaz.ntmps18
  go_wp2_with (at_builtin; refine wpList_append_lies _ rfl (.tmp 5) (.tmp 6) 32 rfl w.heap.size 31 i0 (.agg #[.string ByteArray.empty, .int .u64 0, .int .u8 0]) 3 32 Ybaz.underlying32 hi0 hz0 hzs hzb rfl (by decide) _ 0 [] rfl hown0 ⟨g, 0, none⟩ L.length c (flat L) rfl (flat_length L) HC.out (flat_one L) hL (by unfold maxLen; omega) (by omega) (by simp) (w.heap.size + 1) (by simp) ?_; intro g' c' w1 hown1 hgrow hat hlt)
  go_ret
  rw [Nat.zero_add] at hown1
  have hb : Below w.heap.size w w1 := ((Below.refl _ w).alloc (Nat.le_refl _) _).grown hgrow (by simp) (fun k hk => by cases hk; exact Nat.le_refl _)
  exact ⟨g', c', by simp, by simpa using hown1, hb⟩

set_option maxRecDepth 100000 in
set_option maxHeartbeats 1000000 in
theorem subs_any (W : World) (sb tb rb lb B n : Nat) (topic : ByteArray) (start : Int) (L : List Pr) (G : ByteArray → List (Int × Int)) (t0 t1 : Int) (w : World) (ht : topic.size ≤ maxLen) (h : St W w sb tb rb lb B topic start L n G t0 t1) (hL : 0 < L.length) (hL2 : L.length ≤ 1000) :
    Calls Ybaz.prog 9 #[.pointer (some ⟨sb, 0, none⟩), .string topic] w fun e w' => ∃ g' c', e = .returned (.slice (some ⟨g', 0, none⟩) L.length c') ∧ w'.ownsRow w.heap.size 31 3 (.slice (some ⟨g', 0, none⟩) L.length c') L.length (flat L) ∧ Below w.heap.size w w' := by
  obtain ⟨v, f, hr⟩ := h.ros
  obtain ⟨g, c, rfl, hBg, hg⟩ := hr.own.form hL
  have s0 : w.cell? ⟨sb, 0, none⟩ = some (.map (some tb)) := by simp [World.cell?, h.sblk]
  have r0 : w.cell? ⟨rb, 0, none⟩ = some (.slice (some ⟨g, 0, none⟩) L.length c) := by simp [World.cell?, hr.blk]
  have hl : (Instr.lookup 53 (.map (some tb)) (.string topic) false).run Ybaz.prog w = .ok (.pointer (some ⟨rb, 0, none⟩)) w := by
    rw [h.tmap.lookup Ybaz.underlying53 (z := .pointer none) (by kernel_rfl) topic ht]; simp
  have hown := hr.own
  have HO : Hid (w.ownsRow B 31 3 (.slice (some ⟨g, 0, none⟩) L.length c) L.length (flat L)) := hown
  clear h hr hown
  go_enter Ybaz.func9, Ybaz.ntmps9
  go_wp2_with (go_at_call 18; refine (clone_any B g c L w hL hL2 HO.out).mono ?_; rintro e w1 ⟨g', c', rfl, hown', hb⟩)
  go_ret
  exact ⟨g', c', rfl, hown', hb⟩
end Go.Proofs.YbulkclxkGreat.read
