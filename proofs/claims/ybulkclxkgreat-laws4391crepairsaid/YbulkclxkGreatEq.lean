import Derived.Test.YbulkclxkGreatRead
import Derived.BigQuiet
import Derived.Laws.StructEq
namespace Go.Proofs.YbulkclxkGreat.read
open Go.ChangeShapes Go.WideShapes Go.ChangeAt Go.RowKit
open lab ring maps sup put hold
set_option linter.unusedVariables false

set_option maxRecDepth 100000 in
set_option maxHeartbeats 1000000 in
theorem equal_any (g c g' c' m : Nat) (P : Nat → Pr) (w : World) (hm : m ≤ 1000) (hg : g < w.heap.size) (hg' : g' < w.heap.size) (hP : Row w g m P) (hP' : Row w g' m P) :
    Calls Ybaz.prog 12 #[.slice (some ⟨g, 0, none⟩) m c, .slice (some ⟨g', 0, none⟩) m c'] w fun e w' => e = .returned (.bool true) ∧ Below w.heap.size w w' := by
  have HP : Hid (Row w g m P) := hP
  have HP' : Hid (Row w g' m P) := hP'
  clear hP hP'
  go_enter Ybaz.func12, Ybaz.ntmps12
  go_wp2
  go_loopw [5, 13] (fun _ i wr => ∃ k : Nat, k ≤ m ∧ i = .int .i64 k ∧ Below w.heap.size w wr) (fun _ i _ => m - (intOf i).toNat)
  case atStart => exact ⟨0, Nat.zero_le _, rfl, Below.refl _ _⟩
  case round =>
    obtain ⟨k, hk, rfl, hB⟩ := hrel
    by_cases hkr : k < m
    · obtain ⟨a0, a1, a2⟩ := (HP.out.later hB hg) k hkr
      obtain ⟨b0, b1, b2⟩ := (HP'.out.later hB hg') k hkr
      have i1 : (k : Int) < (m : Int) := by omega
      go_wp2_with fail
      go_quiet (fail)
      go_wp2
      exact ⟨⟨k + 1, by omega, by go_num, below_drewN hB _⟩, by simp [intOf]; omega⟩
    · go_wp2
      go_ret
      exact ⟨rfl, hB⟩

set_option maxRecDepth 100000 in
set_option maxHeartbeats 1000000 in
theorem indexNone (g c m : Nat) (P : Nat → Pr) (w : World) (hm : m ≤ 1000) (hg : g < w.heap.size) (hP : Row w g m P) (hne : ∀ j, j < m → (P j).a.toList.isEmpty = false) :
    Calls Ybaz.prog 54 #[.slice (some ⟨g, 0, none⟩) m c, .func (.func 33) #[] #[]] w fun e w' => e = .returned (.int .i64 (-1)) ∧ Below w.heap.size w w' := by
  have HP : Hid (Row w g m P) := hP
  have HN : Hid (∀ j, j < m → (P j).a.toList.isEmpty = false) := hne
  clear hP hne
  go_enter Ybaz.func54, Ybaz.ntmps54
  go_wp2
  go_loopw [5, 8] (fun _ i wr => ∃ k : Nat, k ≤ m ∧ i = .int .i64 k ∧ Below w.heap.size w wr) (fun _ i _ => m - (intOf i).toNat)
  case atStart => exact ⟨0, Nat.zero_le _, rfl, Below.refl _ _⟩
  case round =>
    obtain ⟨k, hk, rfl, hB⟩ := hrel
    by_cases hkr : k < m
    · obtain ⟨a0, a1, a2⟩ := (HP.out.later hB hg) k hkr
      have i1 : (k : Int) < (m : Int) := by omega
      have hn := HN.out k hkr
      go_wp2_with (go_at_call 33; refine (peerNone (P k).a (P k).b (P k).n _).mono ?_; rintro e w' ⟨rfl, rfl⟩)
      exact ⟨⟨k + 1, by omega, by go_num, hB.alloc hB.size _⟩, by simp [intOf]; omega⟩
    · go_wp2
      go_ret
      exact ⟨rfl, hB⟩

set_option maxRecDepth 100000 in
theorem deleteNone (g c m : Nat) (P : Nat → Pr) (w : World) (hm : m ≤ 1000) (hg : g < w.heap.size) (hP : Row w g m P) (hne : ∀ j, j < m → (P j).a.toList.isEmpty = false) :
    Calls Ybaz.prog 41 #[.slice (some ⟨g, 0, none⟩) m c, .func (.func 33) #[] #[]] w fun e w' => e = .returned (.slice (some ⟨g, 0, none⟩) m c) ∧ Below w.heap.size w w' := by
  have HC : Hid (Calls Ybaz.prog 54 #[.slice (some ⟨g, 0, none⟩) m c, .func (.func 33) #[] #[]] w fun e w' => e = .returned (.int .i64 (-1)) ∧ Below w.heap.size w w') := indexNone g c m P w hm hg hP hne
  clear hP hne
  go_enter Ybaz.func41, Ybaz.ntmps41
  go_wp2_with (go_at_call 54; refine HC.out.mono ?_; rintro e w' ⟨rfl, hb⟩)
  go_ret
  exact ⟨rfl, hb⟩
end Go.Proofs.YbulkclxkGreat.read
