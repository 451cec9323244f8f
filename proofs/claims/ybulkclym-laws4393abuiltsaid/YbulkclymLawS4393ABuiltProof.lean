/-
  PROOF OF 'Rows.LawS4393ABuiltSaid'. The frame is the shell as it was given; the walks are typed by hand over the contracts in YbulkclymParse.
-/
import Derived.Test.YbulkclymRows
import Derived.Test.YbulkclymParse
import Derived.WalkKit
import Derived.ProofKit
import Derived.OpenShut
import Derived.ShutString
import Derived.ChangeOld
import Derived.Below
import Derived.OwnWalk
import Derived.Deep.QuietTactic
import Derived.BigQuiet
import Derived.LoopTactic
import Derived.LaidEqlPtr
namespace Go.Proofs.Ybulkclym.lawS4393ABuilt
open Go.ChangeShapes Go.WideShapes Go.ChangeAt Go.RowKit
open Go.ChangeMaps (open_string shut_string)
set_option linter.unusedVariables false

theorem own : ownKnob Yba.prog.godebug = none := by kernel_rfl
theorem laidOut : laidOutB Yba.prog = true := by kernel_rfl

/-- WHAT THE WALK IS TOLD OF A SLICE OF INTEGERS THAT CAME IN: it is nil; or it leads to a row of 'cap' cells, the numbers 'zs' (the first 'len' are its elements, the rest its spare room), each fitting its kind. -/
def IsRow (k : IntKind) (w : World) (a : Option Addr) (len cap : Nat) (zs : List Int) : Prop :=
  (a = none ∧ len = 0 ∧ cap = 0 ∧ zs = []) ∨
  ∃ x, a = some x ∧ len ≤ cap ∧ cap ≤ maxLen ∧ zs.length = cap ∧ (∀ i, i < zs.length → w.cell? (x.add i) = some (.int k (zs.getD i 0))) ∧ ∀ n ∈ zs, (Lit.int k n).wf = true

/-! ### STEP 1: THE WALKS, a case each -/
theorem info5 : (Yba.prog.info? 5).map (fun i => (i.zero, i.size, i.bytes)) = some (some (.int .u8 0), 1, 1) := by kernel_rfl

theorem src_kept {w w' : World} {b off : Nat} {xs : List Value} {row : Option Nat} (hg : w.grownBy w' row) (hr : row ≠ some b)
    (h : ∀ j u, xs[j]? = some u → w.cell? ((⟨b, off, none⟩ : Addr).add j) = some u) : ∀ j u, xs[j]? = some u → w'.cell? ((⟨b, off, none⟩ : Addr).add j) = some u := by
  intro j u hu
  have h1 := h j u hu
  rw [add_plain] at h1 ⊢
  exact hg.cell h1 (fun e => hr e.symm)

theorem four_lie (w : World) (a b c d : Value) (t : TypeId) : ∀ j u, [a, b, c, d][j]? = some u → (w.alloc (.cells #[a, b, c, d] t)).cell? ((⟨w.heap.size, 0, none⟩ : Addr).add j) = some u := by
  intro j u hj
  match j, hj with
  | 0, hj => simpa [Addr.add] using hj
  | 1, hj => simpa [Addr.add] using hj
  | 2, hj => simpa [Addr.add] using hj
  | 3, hj => simpa [Addr.add] using hj
  | j + 4, hj => simp at hj

theorem four_one (a b c d : Int) : ∀ u ∈ [Value.int .u8 a, .int .u8 b, .int .u8 c, .int .u8 d], u.oneCell' = true := by
  intro u hu
  simp at hu
  rcases hu with rfl | rfl | rfl | rfl <;> rfl

/-- WHAT THE TWO APPENDS LEAVE, in the words that the rest of the law reads. -/
theorem made {w w0 w1 w2 : World} {o : Obj} {a0 a1 l : Int} {b off len : Nat} {A : List Int} (hA : A.length = len) (hgrow0 : w.grownBy w0 none) (hgrow1 : (w0.alloc o).grownBy w1 (some w.heap.size)) (hgrow2 : w1.grownBy w2 (some w.heap.size))
    (hown2 : w2.ownsRow w.heap.size 5 1 (Value.slice (some ⟨w.heap.size, 0, none⟩) (4 + len) (4 + len)) (4 + len) ([] ++ [.int .u8 4, .int .u8 a0, .int .u8 a1, .int .u8 l] ++ A.map (Value.int .u8)))
    (hsrc : ∀ j, j < len → w.cell? ⟨b, off + j, none⟩ = some (.int .u8 (A.getD j 0))) :
    (w2.cell? ⟨w.heap.size, 0, none⟩ = some (.int .u8 4) ∧ w2.cell? ⟨w.heap.size, 0 + 1, none⟩ = some (.int .u8 a0) ∧ w2.cell? ⟨w.heap.size, 0 + 2, none⟩ = some (.int .u8 a1) ∧ w2.cell? ⟨w.heap.size, 0 + 3, none⟩ = some (.int .u8 l)) ∧
    (∀ j, j < len → w2.cell? ⟨w.heap.size, 4 + j, none⟩ = some (.int .u8 (A.getD j 0))) ∧
    (∀ j, j < len → w2.cell? ⟨b, off + j, none⟩ = some (.int .u8 (A.getD j 0))) ∧ Below w.heap.size w w2 := by
  have hb : Below w.heap.size w w2 :=
    (((((Below.refl _ _).grown hgrow0 (Nat.le_refl _) (by simp)).alloc (hgrow0.size) o).grown hgrow1 (by have := hgrow0.size; simp; omega) (by simp)).grown hgrow2 (by have := hgrow0.size; have := hgrow1.size; simp at this; omega) (by simp))
  have hc := fun j (hj : j < 4 + len) => hown2.cellAt j (by omega)
  refine ⟨⟨?_, ?_, ?_, ?_⟩, ?_, ?_, hb⟩
  · rw [hc 0 (by omega)]; simp
  · rw [hc (0 + 1) (by omega)]; simp
  · rw [hc (0 + 2) (by omega)]; simp
  · rw [hc (0 + 3) (by omega)]; simp
  · intro j hj
    rw [hc (4 + j) (by omega)]
    rw [List.getElem?_append_right (by simp), List.nil_append, List.length_cons, List.length_cons, List.length_cons, List.length_cons, List.length_nil, show 4 + j - (0 + 1 + 1 + 1 + 1) = j by omega, List.getElem?_map, List.getElem?_eq_getElem (by omega)]
    simp [List.getElem?_eq_getElem (show j < A.length by omega)]
  · intro j hj
    have h1 := hsrc j hj
    have := World.block_lt_of_cell? _ _ h1
    rw [hb.cell (p := ⟨b, off + j, none⟩) this]
    exact h1

theorem src_of {w : World} {b off len : Nat} {A : List Int} (hA : A.length = len) (h : ∀ j, j < len → w.cell? ⟨b, off + j, none⟩ = some (.int .u8 (A.getD j 0))) :
    ∀ j u, (A.map (Value.int .u8))[j]? = some u → w.cell? ((⟨b, off, none⟩ : Addr).add j) = some u := by
  intro j u hu
  have hj : j < A.length := by have := (List.getElem?_eq_some_iff.1 hu).1; simpa using this
  rw [add_plain, h j (by omega), ← hu]
  simp [List.getElem?_eq_getElem hj]

theorem eql_nil (w : World) (a : Option Addr) (l c : Nat) : (binOp .eql 22 (.slice a l c) (.slice none 0 0)).run Yba.prog w = .ok (.bool a.isNone) w :=
  Lib.run_eql_slice_nil w 22 _ a l c 0 0 Yba.underlying22
theorem eql_ptr (w : World) (a : Addr) : (binOp .eql 29 (.pointer (some a)) (.pointer (some a))).run Yba.prog w = .ok (.bool true) w :=
  run_eql_ptr_same w a Yba.underlying29 (j := (Yba.prog.info? 5).getD default) (by kernel_rfl)
theorem bcell {W w1 : World} (hb : Below W.heap.size W w1) : (∀ b o, b < W.heap.size → w1.cell? ⟨b, o, none⟩ = W.cell? ⟨b, o, none⟩) ∧ (∀ b o, b < W.heap.size → w1.frozen? ⟨b, o, none⟩ = W.frozen? ⟨b, o, none⟩) :=
  ⟨fun b o h => hb.cell (p := ⟨b, o, none⟩) h, fun b o h => hb.frozen (p := ⟨b, o, none⟩) h⟩

set_option maxHeartbeats 1000000 in
theorem walk_yes (a0 a1 a2 : Int) (b off len cap : Nat) (A : List Int) (w : World) (u2 : 0 ≤ a2 ∧ a2 ≤ 255) (he : (a2 % 2 == 0) = true) (hl : 0 < len) (hl' : len ≤ 4096) (hA : A.length = len)
    (hsrc : ∀ j, j < len → w.cell? ⟨b, off + j, none⟩ = some (.int .u8 (A.getD j 0))) :
    Calls Yba.prog 4 #[.int .u8 a0, .int .u8 a1, .int .u8 a2, .slice (some ⟨b, off, none⟩) len cap] w fun e w' => e = .returned (.bool true) ∧ Below w.heap.size w w' := by
  obtain ⟨i0, hi, hz0, hz1, hz2⟩ := info_parts info5
  have hd1 : ¬ (4096 : Int) < (len : Int) := by omega
  have hlt : b < w.heap.size := World.block_lt_of_cell? _ _ (hsrc 0 hl)
  have HS : Hid (∀ j, j < len → w.cell? ⟨b, off + j, none⟩ = some (.int .u8 (A.getD j 0))) := hsrc
  clear hsrc
  go_enter Yba.func4, Yba.ntmps4
  go_wp2_with (at_make; refine wpList_make_own _ rfl _ _ 22 rfl w.heap.size 5 i0 (.int .u8 0) 1 Yba.underlying22 hi hz0 hz1 _ _ _ (4 + len) rfl rfl (by omega) (by rw [hz2]; omega) (by unfold maxLen; omega) (Nat.le_refl _) ?_)
  intro w0 hown0 hgrow0
  have hz := hgrow0.size
  have hsr0 : Hid (∀ j u, (A.map (Value.int .u8))[j]? = some u → w0.cell? ((⟨b, off, none⟩ : Addr).add j) = some u) := src_kept hgrow0 (by simp) (src_of hA HS.out)
  go_wp2_with (first | (at_builtin; refine wpList_append_fits _ rfl (.tmp 25) (.tmp 29) 22 rfl w.heap.size 5 i0 1 Yba.underlying22 hi hz1 w.heap.size 0 (4 + len) _ rfl (hown0.alloc _) ⟨w0.heap.size, 0, none⟩ 4 4 [.int .u8 4, .int .u8 a0, .int .u8 a1, .int .u8 0] rfl rfl (four_lie _ _ _ _ _ _) (four_one _ _ _ _) (by omega) ?_; intro w1 hown1 hgrow1) | (at_builtin; refine wpList_append_fits _ rfl (.tmp 31) (.tmp 32) 22 rfl w.heap.size 5 i0 1 Yba.underlying22 hi hz1 w.heap.size 4 (4 + len) _ rfl hown1 ⟨b, off, none⟩ len cap (A.map (Value.int .u8)) rfl (by simp [hA]) (src_kept hgrow1 (by simp; omega) (src_kept (World.grownBy_alloc _ _ none) (by simp) hsr0.out)) (ints_oneCell _ _) (by omega) ?_; intro w2 hown2 hgrow2))
  obtain ⟨⟨c0, c1, c2, c3⟩, cz, cs, hb⟩ := made hA hgrow0 hgrow1 hgrow2 hown2 HS.out
  have hB : w.heap.size < w2.heap.size := World.block_lt_of_cell? _ _ c0
  clear hown0 hgrow0 hown1 hgrow1 hown2 hgrow2 HS hsr0 hz
  have CZ : Hid (∀ j, j < len → w2.cell? ⟨w.heap.size, 4 + j, none⟩ = some (.int .u8 (A.getD j 0))) := cz
  have CS : Hid (∀ j, j < len → w2.cell? ⟨b, off + j, none⟩ = some (.int .u8 (A.getD j 0))) := cs
  clear cz cs
  refine (parse.yes w.heap.size 0 (4 + len) (4 + len) a0 a1 w2 (by omega) (Nat.le_refl _) (by unfold maxLen; omega) c0 c1 c2 c3).mono ?_
  rintro e w3 ⟨rfl, hb3⟩
  obtain ⟨hc, hf⟩ := bcell hb3
  have hz3 := hb3.size
  have hB3 : w.heap.size < w3.heap.size := by omega
  have hlt2 : b < w2.heap.size := by omega
  have hlt3 : b < w3.heap.size := by omega
  have e4 : 4 + len - 4 = len := by omega
  have el : ((len : Int) == 0) = false := beq_eq_false_iff_ne.2 (by omega)
  have hp := eql_ptr
  rw [e4]
  clear e4
  go_wp2
  go_loopw [13] (fun i wr => ∃ k n : Nat, k ≤ len ∧ i = .int .i64 k ∧ wr = (w3.alloc (.cells #[.int .u8 a0, .int .u8 a1, .slice (some ⟨w.heap.size, 4, none⟩) len len] 24)).drewN n) (fun i _ => len - (intOf i).toNat)
  case atStart => exact ⟨0, 0, Nat.zero_le _, rfl, rfl⟩
  case round =>
    obtain ⟨k, n, hk, rfl, rfl⟩ := hrel
    by_cases hlt : k < len
    · have g1 := CZ.out k hlt
      have g2 := CS.out k hlt
      have i1 : (k : Int) < (len : Int) := by omega
      go_wp2
      go_quiet (fail)
      go_wp2
      go_roundw
      case rel => exact ⟨k + 1, _, by omega, by go_num, rfl⟩
      case measure => simp [intOf]; omega
    · have i0 : (0 : Int) < (len : Int) := by omega
      have i4 : (4 : Int) < 4 + (len : Int) := by omega
      go_wp2
      go_quiet (fail)
      go_wp2
      go_ret
      exact ⟨rfl, below_drewN (below_drewN ((hb.trans (hb3.mono (by omega))).alloc (by omega) _) _) _⟩

set_option maxHeartbeats 1000000 in
theorem walk_last (a0 a1 a2 : Int) (b off len cap : Nat) (A : List Int) (w : World) (u2 : 0 ≤ a2 ∧ a2 ≤ 255) (he : (a2 % 2 == 0) = false) (hl : 0 < len) (hl' : len ≤ 4096) (hA : A.length = len)
    (hsrc : ∀ j, j < len → w.cell? ⟨b, off + j, none⟩ = some (.int .u8 (A.getD j 0))) :
    Calls Yba.prog 4 #[.int .u8 a0, .int .u8 a1, .int .u8 a2, .slice (some ⟨b, off, none⟩) len cap] w fun e w' => e = .returned (.bool true) ∧ Below w.heap.size w w' := by
  have hne : (a2 == 0) = false := beq_eq_false_iff_ne.2 (by intro h; subst h; simp at he)
  have hne' : (a2 != 0) = true := by simpa [bne] using hne
  have hn := eql_nil
  obtain ⟨i0, hi, hz0, hz1, hz2⟩ := info_parts info5
  have hd1 : ¬ (4096 : Int) < (len : Int) := by omega
  have hlt : b < w.heap.size := World.block_lt_of_cell? _ _ (hsrc 0 hl)
  have HS : Hid (∀ j, j < len → w.cell? ⟨b, off + j, none⟩ = some (.int .u8 (A.getD j 0))) := hsrc
  clear hsrc
  go_enter Yba.func4, Yba.ntmps4
  go_wp2_with (at_make; refine wpList_make_own _ rfl _ _ 22 rfl w.heap.size 5 i0 (.int .u8 0) 1 Yba.underlying22 hi hz0 hz1 _ _ _ (4 + len) rfl rfl (by omega) (by rw [hz2]; omega) (by unfold maxLen; omega) (Nat.le_refl _) ?_)
  intro w0 hown0 hgrow0
  have hz := hgrow0.size
  have hsr0 : Hid (∀ j u, (A.map (Value.int .u8))[j]? = some u → w0.cell? ((⟨b, off, none⟩ : Addr).add j) = some u) := src_kept hgrow0 (by simp) (src_of hA HS.out)
  go_wp2_with (first | (at_builtin; refine wpList_append_fits _ rfl (.tmp 25) (.tmp 29) 22 rfl w.heap.size 5 i0 1 Yba.underlying22 hi hz1 w.heap.size 0 (4 + len) _ rfl (hown0.alloc _) ⟨w0.heap.size, 0, none⟩ 4 4 [.int .u8 4, .int .u8 a0, .int .u8 a1, .int .u8 a2] rfl rfl (four_lie _ _ _ _ _ _) (four_one _ _ _ _) (by omega) ?_; intro w1 hown1 hgrow1) | (at_builtin; refine wpList_append_fits _ rfl (.tmp 31) (.tmp 32) 22 rfl w.heap.size 5 i0 1 Yba.underlying22 hi hz1 w.heap.size 4 (4 + len) _ rfl hown1 ⟨b, off, none⟩ len cap (A.map (Value.int .u8)) rfl (by simp [hA]) (src_kept hgrow1 (by simp; omega) (src_kept (World.grownBy_alloc _ _ none) (by simp) hsr0.out)) (ints_oneCell _ _) (by omega) ?_; intro w2 hown2 hgrow2))
  obtain ⟨⟨c0, c1, c2, c3⟩, cz, cs, hb⟩ := made hA hgrow0 hgrow1 hgrow2 hown2 HS.out
  have hB : w.heap.size < w2.heap.size := World.block_lt_of_cell? _ _ c0
  clear hown0 hgrow0 hown1 hgrow1 hown2 hgrow2 HS hsr0 hz
  have CZ : Hid (∀ j, j < len → w2.cell? ⟨w.heap.size, 4 + j, none⟩ = some (.int .u8 (A.getD j 0))) := cz
  have CS : Hid (∀ j, j < len → w2.cell? ⟨b, off + j, none⟩ = some (.int .u8 (A.getD j 0))) := cs
  clear cz cs
  refine (parse.no_last w.heap.size 0 (4 + len) (4 + len) a2 w2 (by omega) hne c0 c3).mono ?_
  rintro e w3 ⟨⟨p, rfl⟩, hb3⟩
  go_wp2
  go_ret
  exact ⟨rfl, (hb.trans (hb3.mono (by omega))).alloc (by have := hb3.size; omega) _⟩

set_option maxHeartbeats 1000000 in
theorem walk_empty_even (a0 a1 a2 : Int) (cap : Nat) (ao : Option Addr) (w : World) (u2 : 0 ≤ a2 ∧ a2 ≤ 255) (he : (a2 % 2 == 0) = true) (hnone : ao = none → cap = 0) :
    Calls Yba.prog 4 #[.int .u8 a0, .int .u8 a1, .int .u8 a2, .slice ao 0 cap] w fun e w' => e = .returned (.bool true) ∧ Below w.heap.size w w' := by
  obtain ⟨i0, hi, hz0, hz1, hz2⟩ := info_parts info5
  have hne' : ((0 : Int) != 0) = false := by rfl
  have hn := eql_nil
  have HN : Hid (ao = none → cap = 0) := hnone
  clear hnone
  go_enter Yba.func4, Yba.ntmps4
  go_wp2_with (at_make; refine wpList_make_own _ rfl _ _ 22 rfl w.heap.size 5 i0 (.int .u8 0) 1 Yba.underlying22 hi hz0 hz1 _ _ _ 4 rfl rfl (by omega) (by rw [hz2]; omega) (by unfold maxLen; omega) (Nat.le_refl _) ?_)
  intro w0 hown0 hgrow0
  have hz := hgrow0.size
  go_wp2_with (first | (at_builtin; refine wpList_append_fits _ rfl (.tmp 25) (.tmp 29) 22 rfl w.heap.size 5 i0 1 Yba.underlying22 hi hz1 w.heap.size 0 4 _ rfl (hown0.alloc _) ⟨w0.heap.size, 0, none⟩ 4 4 [.int .u8 4, .int .u8 a0, .int .u8 a1, .int .u8 (0 : Int)] rfl rfl (four_lie _ _ _ _ _ _) (four_one _ _ _ _) (by omega) ?_; intro w1 hown1 hgrow1) | (at_builtin; refine wpList_append_fits_any _ rfl (.tmp 31) (.tmp 32) 22 rfl w.heap.size 5 i0 1 Yba.underlying22 hi hz1 w.heap.size 4 4 _ rfl hown1 ao 0 cap [] rfl rfl (fun h => ⟨rfl, HN.out h⟩) (by intro ad _ j u hu; simp at hu) (by intro u hu; cases hu) (by omega) ?_; intro w2 hown2 hgrow2))
  have c0 : w2.cell? ⟨w.heap.size, 0, none⟩ = some (.int .u8 4) := by rw [hown2.cellAt 0 (by omega)]; simp
  have hb : Below w.heap.size w w2 :=
    (((((Below.refl _ _).grown hgrow0 (Nat.le_refl _) (by simp)).alloc (hgrow0.size) _).grown hgrow1 (by have := hgrow0.size; simp; omega) (by simp)).grown hgrow2 (by have := hgrow0.size; have := hgrow1.size; simp at this; omega) (by simp))
  clear hown0 hgrow0 hown1 hgrow1 hown2 hgrow2 hz HN
  have hB : w.heap.size < w2.heap.size := World.block_lt_of_cell? _ _ c0
  refine (parse.no_bare w.heap.size 0 4 w2 c0).mono ?_
  rintro e w3 ⟨⟨p, rfl⟩, hb3⟩
  go_wp2
  go_ret
  exact ⟨rfl, (hb.trans (hb3.mono (by omega))).alloc (by have := hb3.size; omega) _⟩

set_option maxHeartbeats 1000000 in
theorem walk_empty_odd (a0 a1 a2 : Int) (cap : Nat) (ao : Option Addr) (w : World) (u2 : 0 ≤ a2 ∧ a2 ≤ 255) (he : (a2 % 2 == 0) = false) (hnone : ao = none → cap = 0) :
    Calls Yba.prog 4 #[.int .u8 a0, .int .u8 a1, .int .u8 a2, .slice ao 0 cap] w fun e w' => e = .returned (.bool true) ∧ Below w.heap.size w w' := by
  obtain ⟨i0, hi, hz0, hz1, hz2⟩ := info_parts info5
  have hne' : (a2 != 0) = true := by rw [bne_iff_ne]; intro h; subst h; simp at he
  have hn := eql_nil
  have HN : Hid (ao = none → cap = 0) := hnone
  clear hnone
  go_enter Yba.func4, Yba.ntmps4
  go_wp2_with (at_make; refine wpList_make_own _ rfl _ _ 22 rfl w.heap.size 5 i0 (.int .u8 0) 1 Yba.underlying22 hi hz0 hz1 _ _ _ 4 rfl rfl (by omega) (by rw [hz2]; omega) (by unfold maxLen; omega) (Nat.le_refl _) ?_)
  intro w0 hown0 hgrow0
  have hz := hgrow0.size
  go_wp2_with (first | (at_builtin; refine wpList_append_fits _ rfl (.tmp 25) (.tmp 29) 22 rfl w.heap.size 5 i0 1 Yba.underlying22 hi hz1 w.heap.size 0 4 _ rfl (hown0.alloc _) ⟨w0.heap.size, 0, none⟩ 4 4 [.int .u8 4, .int .u8 a0, .int .u8 a1, .int .u8 a2] rfl rfl (four_lie _ _ _ _ _ _) (four_one _ _ _ _) (by omega) ?_; intro w1 hown1 hgrow1) | (at_builtin; refine wpList_append_fits_any _ rfl (.tmp 31) (.tmp 32) 22 rfl w.heap.size 5 i0 1 Yba.underlying22 hi hz1 w.heap.size 4 4 _ rfl hown1 ao 0 cap [] rfl rfl (fun h => ⟨rfl, HN.out h⟩) (by intro ad _ j u hu; simp at hu) (by intro u hu; cases hu) (by omega) ?_; intro w2 hown2 hgrow2))
  have c0 : w2.cell? ⟨w.heap.size, 0, none⟩ = some (.int .u8 4) := by rw [hown2.cellAt 0 (by omega)]; simp
  have hb : Below w.heap.size w w2 :=
    (((((Below.refl _ _).grown hgrow0 (Nat.le_refl _) (by simp)).alloc (hgrow0.size) _).grown hgrow1 (by have := hgrow0.size; simp; omega) (by simp)).grown hgrow2 (by have := hgrow0.size; have := hgrow1.size; simp at this; omega) (by simp))
  clear hown0 hgrow0 hown1 hgrow1 hown2 hgrow2 hz HN
  have hB : w.heap.size < w2.heap.size := World.block_lt_of_cell? _ _ c0
  refine (parse.no_bare w.heap.size 0 4 w2 c0).mono ?_
  rintro e w3 ⟨⟨p, rfl⟩, hb3⟩
  go_wp2
  go_ret
  exact ⟨rfl, (hb.trans (hb3.mono (by omega))).alloc (by have := hb3.size; omega) _⟩

set_option maxHeartbeats 1000000 in
theorem walk_long (a0 a1 a2 : Int) (a : Option Addr) (len cap : Nat) (w : World) (h : 4096 < len) :
    Calls Yba.prog 4 #[.int .u8 a0, .int .u8 a1, .int .u8 a2, .slice a len cap] w fun e w' => e = .returned (.bool true) ∧ Below w.heap.size w w' := by
  have hd1 : (4096 : Int) < (len : Int) := by omega
  go_enter Yba.func4, Yba.ntmps4
  go_wp2
  go_ret
  exact ⟨rfl, Below.refl _ _⟩


theorem walk (a0 : Int) (a1 : Int) (a2 : Int) (a3 : Option Addr) (len3 cap3 : Nat) (z3 : List Int) (w : World) (w0 : (Lit.int .u8 a0).wf = true) (w1 : (Lit.int .u8 a1).wf = true) (w2 : (Lit.int .u8 a2).wf = true) (w3 : IsRow .u8 w a3 len3 cap3 z3) :
    Calls Yba.prog 4 #[.int .u8 a0, .int .u8 a1, .int .u8 a2, .slice a3 len3 cap3] w fun e w' => e = .returned (.bool true) ∧ Below w.heap.size w w' := by
  have u2 := bounds_u8 w2
  have hcase : (a2 % 2 == 0) = true ∨ (a2 % 2 == 0) = false := by cases (a2 % 2 == 0) <;> simp
  rcases w3 with ⟨rfl, rfl, rfl, rfl⟩ | ⟨x, rfl, hl, hm, hz, hcell, hwz⟩
  · rcases hcase with he | he
    · exact walk_empty_even a0 a1 a2 0 none w u2 he (fun _ => rfl)
    · exact walk_empty_odd a0 a1 a2 0 none w u2 he (fun _ => rfl)
  by_cases hbig : 4096 < len3
  · exact walk_long a0 a1 a2 _ len3 cap3 w hbig
  by_cases h0 : len3 = 0
  · subst h0
    rcases hcase with he | he
    · exact walk_empty_even a0 a1 a2 cap3 _ w u2 he (by simp)
    · exact walk_empty_odd a0 a1 a2 cap3 _ w u2 he (by simp)
  obtain ⟨b, off, spot⟩ := x
  have hspot : spot = none := by simpa [Addr.add] using World.cell?_spot (hcell 0 (by omega))
  subst hspot
  have cz : ∀ j, j < len3 → w.cell? ⟨b, off + j, none⟩ = some (.int .u8 ((z3.take len3).getD j 0)) := fun j hj => by
    rw [← add_plain, hcell j (by omega)]
    simp [hj]
  have hA : (z3.take len3).length = len3 := by simp; omega
  rcases hcase with he | he
  · exact walk_yes a0 a1 a2 b off len3 cap3 (z3.take len3) w u2 he (by omega) (by omega) hA cz
  · exact walk_last a0 a1 a2 b off len3 cap3 (z3.take len3) w u2 he (by omega) (by omega) hA cz

/-! ### THE ROW's STEP: WRITTEN OUT: LEAVE IT -/
set_option maxRecDepth 100000 in
theorem lifted (os : Os) (started : os.Started) (H : Type) (enc : TypeId × Value → H) :
    ReturnsInHanded {} Yba.checked os 4 .any (Rows.lawS4393ABuiltSpec.pre6 enc Yba.prog Yba.f4 Rows.lawS4393ABuiltRow.domain false) (Rows.lawS4393ABuiltSpec.post enc Yba.prog Yba.f4 false true false false) := by
  refine returnsInHanded_of_change (C := Yba.checked) own started (by kernel_rfl) Yba.func4
    (ChangeSpec.witness6 (enc := enc) (C := Yba.checked) false ⟨#[], #[.int .u8 0, .int .u8 0, .int .u8 0, .slice none 0 0], []⟩ 8 (by kernel_rfl) (by kernel_rfl) (by kernel_rfl) (by kernel_rfl)) ?_
  intro W base args ds gs before hval0 hW hcnd _
  have hval : ∀ (j : Nat) t v, Yba.f4.params[j]? = some t → args[j]? = some v → Value.okWide Yba.prog W .any base t v := hval0
  have hW' := hW
  obtain ⟨p, q, hA0, hV, rfl, hfz, hnd⟩ := hW
  have hA : DataW.TrodAll enc Yba.prog W 0 (fun _ => true) true Yba.f4.params.toList args.toList ds p := hA0
  rw [Yba.params4] at hA hval
  obtain ⟨v0, vs0, d0, ds0, p0, q0, hargs, rfl, rfl, h0, r0⟩ := trodAll_cons hA
  obtain ⟨v1, vs1, d1, ds1, p1, q1, rfl, rfl, rfl, h1, r1⟩ := trodAll_cons r0
  obtain ⟨v2, vs2, d2, ds2, p2, q2, rfl, rfl, rfl, h2, r2⟩ := trodAll_cons r1
  obtain ⟨v3, vs3, d3, ds3, p3, q3, rfl, rfl, rfl, h3, r3⟩ := trodAll_cons r2
  obtain ⟨rfl, rfl, rfl⟩ := trodAll_nil r3
  obtain rfl : args = #[v0, v1, v2, v3] := by cases args; simp_all
  obtain ⟨rfl, rfl⟩ := trodVars_none hV
  obtain ⟨a0, rfl, rfl, rfl, w0⟩ := open_int Yba.underlying5 (hval 0 5 v0 rfl rfl) h0
  obtain ⟨a1, rfl, rfl, rfl, w1⟩ := open_int Yba.underlying5 (hval 1 5 v1 rfl rfl) h1
  obtain ⟨a2, rfl, rfl, rfl, w2⟩ := open_int Yba.underlying5 (hval 2 5 v2 rfl rfl) h2
  obtain ⟨a3, len3, cap3, rfl⟩ := okWide_slice Yba.underlying22 (hval 3 22 v3 rfl rfl)
  have k3 := h3
  have lt3 : ∀ x ∈ p3, x.block < W.heap.size := by obtain ⟨m, hm⟩ := k3; exact DataW.trod_lt m _ _ _ hm
  obtain ⟨z3, w3⟩ : ∃ zs, IsRow .u8 W a3 len3 cap3 zs := by
    obtain ⟨fuel, hf⟩ := h3
    rcases open_ints Yba.underlying22 Yba.underlying5 (by kernel_rfl) hf with ⟨hcs, _⟩ | ⟨x, l, c, zs, hcs, _, hl, hm, hz, _, hcell, hwz⟩
    · simp [Value.cells] at hcs
      obtain ⟨rfl, rfl, rfl⟩ := hcs
      exact ⟨[], .inl ⟨rfl, rfl, rfl, rfl⟩⟩
    · simp [Value.cells] at hcs
      obtain ⟨rfl, rfl, rfl⟩ := hcs
      exact ⟨zs, .inr ⟨_, rfl, hl, hm, by simpa using hz, hcell, hwz⟩⟩
  clear hA0 hval0
  refine (walk a0 a1 a2 a3 len3 cap3 z3 W w0 w1 w2 w3).mono fun e W' ⟨he, bel⟩ => ?_
  subst he
  exact ⟨_, rfl, _, _, _, [], _, [], hW', trodAll_mk1 (shut_bool Yba.underlying4 _), (trodAll_cons_mk (shut_int Yba.underlying5 w0) (trodAll_cons_mk (shut_int Yba.underlying5 w1) (trodAll_cons_mk (shut_int Yba.underlying5 w2) (trodAll_cons_mk (Below.trod laidOut (by kernel_rfl) (of_decide_eq_true (by kernel_rfl)) k3 bel lt3) trodAll_mk0)))), rfl, bel.frame _, fun h => by cases h⟩

theorem over : Rows.lawS4393ABuiltRow.holds Yba.pinned (OpenSpec.ofChange Rows.lawS4393ABuiltSpec) :=
  OpenClaim.holds_of_wide 4 Yba.f4 rfl rfl rfl rfl rfl rfl rfl ⟨rfl, rfl, rfl, rfl, rfl⟩ rfl rfl rfl rfl rfl (by kernel_rfl) Yba.func4 (by kernel_rfl)
    (of_decide_eq_true (by kernel_rfl)) (by unfold Func.isWrapper; first | (rw [if_pos (by decide +kernel)]; kernel_rfl) | (rw [if_neg (by decide +kernel)]; exact ⟨rfl, rfl⟩))
    (fun os started H enc _ => lifted os started H enc)

/-- ████ THE STATEMENT ████ -/
theorem proved : Rows.LawS4393ABuiltSaid := over
end Go.Proofs.Ybulkclym.lawS4393ABuilt
