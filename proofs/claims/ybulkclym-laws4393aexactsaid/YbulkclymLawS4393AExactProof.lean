/-
  PROOF OF 'Rows.LawS4393AExactSaid'. The frame is the shell as it was given; the walks are typed by hand over the contracts in YbulkclymParse.
-/
import Derived.Test.YbulkclymRows
import Derived.Test.YbulkclymParse
import Derived.WalkKit
import Derived.ProofKit
import Derived.OpenShut
import Derived.ShutString
import Derived.ChangeOld
import Derived.Below
import Derived.Deep.QuietTactic
import Derived.BigQuiet
import Derived.LoopTactic
import Derived.LaidEqlPtr
namespace Go.Proofs.Ybulkclym.lawS4393AExact
open Go.ChangeShapes Go.WideShapes Go.ChangeAt Go.RowKit
open Go.ChangeMaps (open_string shut_string)
set_option linter.unusedVariables false

theorem own : ownKnob Yba.prog.godebug = none := by kernel_rfl
theorem laidOut : laidOutB Yba.prog = true := by kernel_rfl

/-- WHAT THE WALK IS TOLD OF A SLICE OF INTEGERS THAT CAME IN: it is nil; or it leads to a row of 'cap' cells, the numbers 'zs' (the first 'len' are its elements, the rest its spare room), each fitting its kind. -/
def IsRow (k : IntKind) (w : World) (a : Option Addr) (len cap : Nat) (zs : List Int) : Prop :=
  (a = none ∧ len = 0 ∧ cap = 0 ∧ zs = []) ∨
  ∃ x, a = some x ∧ len ≤ cap ∧ cap ≤ maxLen ∧ zs.length = cap ∧ (∀ i, i < zs.length → w.cell? (x.add i) = some (.int k (zs.getD i 0))) ∧ ∀ n ∈ zs, (Lit.int k n).wf = true

/-! ### STEP 1: THE WALKS, a case each -/
theorem eql_nil (w : World) (a : Option Addr) (l c : Nat) : (binOp .eql 22 (.slice a l c) (.slice none 0 0)).run Yba.prog w = .ok (.bool a.isNone) w :=
  Lib.run_eql_slice_nil w 22 _ a l c 0 0 Yba.underlying22
theorem eql_ptr (w : World) (a : Addr) : (binOp .eql 29 (.pointer (some a)) (.pointer (some a))).run Yba.prog w = .ok (.bool true) w :=
  run_eql_ptr_same w a Yba.underlying29 (j := (Yba.prog.info? 5).getD default) (by kernel_rfl)
theorem bcell {W w1 : World} (hb : Below W.heap.size W w1) : (∀ b o, b < W.heap.size → w1.cell? ⟨b, o, none⟩ = W.cell? ⟨b, o, none⟩) ∧ (∀ b o, b < W.heap.size → w1.frozen? ⟨b, o, none⟩ = W.frozen? ⟨b, o, none⟩) :=
  ⟨fun b o h => hb.cell (p := ⟨b, o, none⟩) h, fun b o h => hb.frozen (p := ⟨b, o, none⟩) h⟩

set_option maxHeartbeats 1000000 in
theorem walk_short (a : Option Addr) (len cap : Nat) (w : World) (h : len < 4) :
    Calls Yba.prog 3 #[.slice a len cap] w fun e w' => e = .returned (.bool true) ∧ Below w.heap.size w w' := by
  have hn := eql_nil
  have hd : decide ((5 : Int) ≤ (len : Int)) = false := decide_eq_false (by omega)
  have hd1 : ¬ (4096 : Int) < (len : Int) := by omega
  go_enter Yba.func3, Yba.ntmps3
  go_wp2_with fail
  refine (parse.no_short a len cap _ h).mono ?_
  rintro e w1 ⟨⟨p, rfl⟩, hb⟩
  go_wp2
  go_ret
  exact ⟨rfl, hb.alloc hb.size _⟩

set_option maxHeartbeats 1000000 in
theorem walk_head4 (b off cap : Nat) (z0 : Int) (w : World) (h0 : (z0 == 4) = false) (c0 : w.cell? ⟨b, off, none⟩ = some (.int .u8 z0)) :
    Calls Yba.prog 3 #[.slice (some ⟨b, off, none⟩) 4 cap] w fun e w' => e = .returned (.bool true) ∧ Below w.heap.size w w' := by
  have hn := eql_nil
  have hlt : b < w.heap.size := World.block_lt_of_cell? _ _ c0
  go_enter Yba.func3, Yba.ntmps3
  go_wp2_with fail
  refine (parse.no_head b off 4 cap z0 _ (by omega) h0 c0).mono ?_
  rintro e w1 ⟨⟨p, rfl⟩, hb⟩
  obtain ⟨hc, hf⟩ := bcell hb
  have hz := hb.size
  have hlt1 : b < w1.heap.size := by omega
  go_wp2
  go_ret
  exact ⟨rfl, hb.alloc hb.size _⟩

set_option maxHeartbeats 1000000 in
theorem walk_head (b off len cap : Nat) (z0 : Int) (w : World) (h : 5 ≤ len) (h' : len ≤ 4096) (h0 : (z0 == 4) = false) (c0 : w.cell? ⟨b, off, none⟩ = some (.int .u8 z0)) :
    Calls Yba.prog 3 #[.slice (some ⟨b, off, none⟩) len cap] w fun e w' => e = .returned (.bool true) ∧ Below w.heap.size w w' := by
  have hn := eql_nil
  have hlt : b < w.heap.size := World.block_lt_of_cell? _ _ c0
  have hd : (5 : Int) ≤ (len : Int) := by omega
  have hd1 : ¬ (4096 : Int) < (len : Int) := by omega
  have hd0 : (0 : Int) < (len : Int) := by omega
  go_enter Yba.func3, Yba.ntmps3
  go_wp2_with fail
  refine (parse.no_head b off len cap z0 _ (by omega) h0 c0).mono ?_
  rintro e w1 ⟨⟨p, rfl⟩, hb⟩
  obtain ⟨hc, hf⟩ := bcell hb
  have hz := hb.size
  have hlt1 : b < w1.heap.size := by omega
  go_wp2
  go_ret
  exact ⟨rfl, hb.alloc hb.size _⟩

set_option maxHeartbeats 1000000 in
theorem walk_bare (b off cap : Nat) (w : World) (c0 : w.cell? ⟨b, off, none⟩ = some (.int .u8 4)) :
    Calls Yba.prog 3 #[.slice (some ⟨b, off, none⟩) 4 cap] w fun e w' => e = .returned (.bool true) ∧ Below w.heap.size w w' := by
  have hn := eql_nil
  have hlt : b < w.heap.size := World.block_lt_of_cell? _ _ c0
  go_enter Yba.func3, Yba.ntmps3
  go_wp2_with fail
  refine (parse.no_bare b off cap _ c0).mono ?_
  rintro e w1 ⟨⟨p, rfl⟩, hb⟩
  obtain ⟨hc, hf⟩ := bcell hb
  have hz := hb.size
  have hlt1 : b < w1.heap.size := by omega
  go_wp2
  go_ret
  exact ⟨rfl, hb.alloc hb.size _⟩

set_option maxHeartbeats 1000000 in
theorem walk_last (b off len cap : Nat) (z3 : Int) (w : World) (h : 5 ≤ len) (h' : len ≤ 4096) (h3 : (z3 == 0) = false) (c0 : w.cell? ⟨b, off, none⟩ = some (.int .u8 4)) (c3 : w.cell? ⟨b, off + 3, none⟩ = some (.int .u8 z3)) :
    Calls Yba.prog 3 #[.slice (some ⟨b, off, none⟩) len cap] w fun e w' => e = .returned (.bool true) ∧ Below w.heap.size w w' := by
  have hn := eql_nil
  have hlt : b < w.heap.size := World.block_lt_of_cell? _ _ c0
  have hd : (5 : Int) ≤ (len : Int) := by omega
  have hd1 : ¬ (4096 : Int) < (len : Int) := by omega
  have hd0 : (0 : Int) < (len : Int) := by omega
  have hd3 : (3 : Int) < (len : Int) := by omega
  go_enter Yba.func3, Yba.ntmps3
  go_wp2_with fail
  refine (parse.no_last b off len cap z3 _ h h3 c0 c3).mono ?_
  rintro e w1 ⟨⟨p, rfl⟩, hb⟩
  obtain ⟨hc, hf⟩ := bcell hb
  have hz := hb.size
  have hlt1 : b < w1.heap.size := by omega
  go_wp2
  go_ret
  exact ⟨rfl, hb.alloc hb.size _⟩

set_option maxHeartbeats 1000000 in
theorem walk_long (a : Option Addr) (len cap : Nat) (w : World) (h : 4096 < len) :
    Calls Yba.prog 3 #[.slice a len cap] w fun e w' => e = .returned (.bool true) ∧ Below w.heap.size w w' := by
  have hd1 : (4096 : Int) < (len : Int) := by omega
  go_enter Yba.func3, Yba.ntmps3
  go_wp2
  go_ret
  exact ⟨rfl, Below.refl _ _⟩

set_option maxHeartbeats 1000000 in
theorem walk_yes (b off len cap : Nat) (z : Nat → Int) (w : World) (h : 5 ≤ len) (h' : len ≤ 4096) (hcap : len ≤ cap) (hm : cap ≤ maxLen)
    (c0 : w.cell? ⟨b, off, none⟩ = some (.int .u8 4)) (c1 : w.cell? ⟨b, off + 1, none⟩ = some (.int .u8 (z 1))) (c2 : w.cell? ⟨b, off + 2, none⟩ = some (.int .u8 (z 2))) (c3 : w.cell? ⟨b, off + 3, none⟩ = some (.int .u8 0))
    (cz : ∀ k, k < len → w.cell? ⟨b, off + k, none⟩ = some (.int .u8 (z k))) :
    Calls Yba.prog 3 #[.slice (some ⟨b, off, none⟩) len cap] w fun e w' => e = .returned (.bool true) ∧ Below w.heap.size w w' := by
  have hlt : b < w.heap.size := World.block_lt_of_cell? _ _ c0
  have hd : (5 : Int) ≤ (len : Int) := by omega
  have hd1 : ¬ (4096 : Int) < (len : Int) := by omega
  have hd0 : (0 : Int) < (len : Int) := by omega
  have hd01 : (1 : Int) < (len : Int) := by omega
  have hd2 : (2 : Int) < (len : Int) := by omega
  have hd3 : (3 : Int) < (len : Int) := by omega
  have hl4 : ((len - 4 : Nat) : Int) = (len : Int) - 4 := by omega
  go_enter Yba.func3, Yba.ntmps3
  go_wp2_with fail
  refine (parse.yes b off len cap (z 1) (z 2) _ h hcap hm c0 c1 c2 c3).mono ?_
  rintro e w1 ⟨rfl, hb⟩
  have HZ : Hid (∀ k, k < len → w.cell? ⟨b, off + k, none⟩ = some (.int .u8 (z k))) := cz
  clear cz
  obtain ⟨hc, hf⟩ := bcell hb
  have hz := hb.size
  have hlt1 : b < w1.heap.size := by omega
  go_wp2
  go_quiet (fail)
  go_wp2
  go_loopw [6] (fun i wr => ∃ k n : Nat, k ≤ len - 4 ∧ i = .int .i64 k ∧ wr = (w1.alloc (.cells #[.int .u8 (z 1), .int .u8 (z 2), .slice (some ⟨b, off + 4, none⟩) (len - 4) (cap - 4)] 24)).drewN n) (fun i _ => len - 4 - (intOf i).toNat)
  case atStart => exact ⟨0, nq, Nat.zero_le _, rfl, rfl⟩
  case round =>
    obtain ⟨k, n, hk, rfl, rfl⟩ := hrel
    by_cases hlt : k < len - 4
    · have g1 : w.cell? ⟨b, off + 4 + k, none⟩ = some (.int .u8 (z (4 + k))) := by rw [Nat.add_assoc]; exact HZ.out (4 + k) (by omega)
      have g2 : w.cell? ⟨b, off + (4 + k), none⟩ = some (.int .u8 (z (4 + k))) := HZ.out (4 + k) (by omega)
      have i1 : (k : Int) < (len : Int) - 4 := by omega
      have i2 : (4 : Int) + (k : Int) < (len : Int) := by omega
      go_wp2
      go_quiet (fail)
      go_wp2
      go_roundw
      case rel => exact ⟨k + 1, _, by omega, by go_num, rfl⟩
      case measure => simp [intOf]; omega
    · have hp := eql_ptr
      have i0 : (0 : Int) < (len : Int) - 4 := by omega
      have i4 : (4 : Int) < (len : Int) := by omega
      go_wp2
      go_quiet (fail)
      go_wp2
      go_ret
      exact ⟨rfl, below_drewN (below_drewN (hb.alloc hb.size _) _) _⟩

theorem walk (a0 : Option Addr) (len0 cap0 : Nat) (z0 : List Int) (w : World) (w0 : IsRow .u8 w a0 len0 cap0 z0) :
    Calls Yba.prog 3 #[.slice a0 len0 cap0] w fun e w' => e = .returned (.bool true) ∧ Below w.heap.size w w' := by
  rcases w0 with ⟨rfl, rfl, rfl, rfl⟩ | ⟨x, rfl, hl, hm, hz, hcell, hwz⟩
  · exact walk_short none 0 0 w (by omega)
  by_cases h4 : len0 < 4
  · exact walk_short _ len0 cap0 w h4
  by_cases hbig : 4096 < len0
  · exact walk_long _ len0 cap0 w hbig
  obtain ⟨b, off, spot⟩ := x
  have hspot : spot = none := by simpa [Addr.add] using World.cell?_spot (hcell 0 (by omega))
  subst hspot
  have cz : ∀ j, j < len0 → w.cell? ⟨b, off + j, none⟩ = some (.int .u8 (z0.getD j 0)) := fun j hj => by rw [← add_plain]; exact hcell j (by omega)
  have c0 : w.cell? ⟨b, off, none⟩ = some (.int .u8 (z0.getD 0 0)) := cz 0 (by omega)
  by_cases e0 : z0.getD 0 0 = 4
  · rw [e0] at c0
    by_cases h5 : len0 = 4
    · subst h5
      exact walk_bare b off cap0 w c0
    have c3 := cz 3 (by omega)
    by_cases e3 : z0.getD 3 0 = 0
    · rw [e3] at c3
      exact walk_yes b off len0 cap0 (fun j => z0.getD j 0) w (by omega) (by omega) hl hm c0 (cz 1 (by omega)) (cz 2 (by omega)) c3 cz
    · exact walk_last b off len0 cap0 _ w (by omega) (by omega) (beq_eq_false_iff_ne.2 e3) c0 c3
  · by_cases h5 : len0 = 4
    · subst h5
      exact walk_head4 b off cap0 _ w (beq_eq_false_iff_ne.2 e0) c0
    · exact walk_head b off len0 cap0 _ w (by omega) (by omega) (beq_eq_false_iff_ne.2 e0) c0

/-! ### THE ROW's STEP: WRITTEN OUT: LEAVE IT -/
set_option maxRecDepth 100000 in
theorem lifted (os : Os) (started : os.Started) (H : Type) (enc : TypeId × Value → H) :
    ReturnsInHanded {} Yba.checked os 3 .any (Rows.lawS4393AExactSpec.pre6 enc Yba.prog Yba.f3 Rows.lawS4393AExactRow.domain false) (Rows.lawS4393AExactSpec.post enc Yba.prog Yba.f3 false true false false) := by
  refine returnsInHanded_of_change (C := Yba.checked) own started (by kernel_rfl) Yba.func3
    (ChangeSpec.witness6 (enc := enc) (C := Yba.checked) false ⟨#[], #[.slice none 0 0], []⟩ 8 (by kernel_rfl) (by kernel_rfl) (by kernel_rfl) (by kernel_rfl)) ?_
  intro W base args ds gs before hval0 hW hcnd _
  have hval : ∀ (j : Nat) t v, Yba.f3.params[j]? = some t → args[j]? = some v → Value.okWide Yba.prog W .any base t v := hval0
  have hW' := hW
  obtain ⟨p, q, hA0, hV, rfl, hfz, hnd⟩ := hW
  have hA : DataW.TrodAll enc Yba.prog W 0 (fun _ => true) true Yba.f3.params.toList args.toList ds p := hA0
  rw [Yba.params3] at hA hval
  obtain ⟨v0, vs0, d0, ds0, p0, q0, hargs, rfl, rfl, h0, r0⟩ := trodAll_cons hA
  obtain ⟨rfl, rfl, rfl⟩ := trodAll_nil r0
  obtain rfl : args = #[v0] := by cases args; simp_all
  obtain ⟨rfl, rfl⟩ := trodVars_none hV
  obtain ⟨a0, len0, cap0, rfl⟩ := okWide_slice Yba.underlying22 (hval 0 22 v0 rfl rfl)
  have k0 := h0
  have lt0 : ∀ x ∈ p0, x.block < W.heap.size := by obtain ⟨m, hm⟩ := k0; exact DataW.trod_lt m _ _ _ hm
  obtain ⟨z0, w0⟩ : ∃ zs, IsRow .u8 W a0 len0 cap0 zs := by
    obtain ⟨fuel, hf⟩ := h0
    rcases open_ints Yba.underlying22 Yba.underlying5 (by kernel_rfl) hf with ⟨hcs, _⟩ | ⟨x, l, c, zs, hcs, _, hl, hm, hz, _, hcell, hwz⟩
    · simp [Value.cells] at hcs
      obtain ⟨rfl, rfl, rfl⟩ := hcs
      exact ⟨[], .inl ⟨rfl, rfl, rfl, rfl⟩⟩
    · simp [Value.cells] at hcs
      obtain ⟨rfl, rfl, rfl⟩ := hcs
      exact ⟨zs, .inr ⟨_, rfl, hl, hm, by simpa using hz, hcell, hwz⟩⟩
  clear hA0 hval0
  refine (walk a0 len0 cap0 z0 W w0).mono fun e W' ⟨he, bel⟩ => ?_
  subst he
  exact ⟨_, rfl, _, _, _, [], _, [], hW', trodAll_mk1 (shut_bool Yba.underlying4 _), (trodAll_cons_mk (Below.trod laidOut (by kernel_rfl) (of_decide_eq_true (by kernel_rfl)) k0 bel lt0) trodAll_mk0), rfl, bel.frame _, fun h => by cases h⟩

theorem over : Rows.lawS4393AExactRow.holds Yba.pinned (OpenSpec.ofChange Rows.lawS4393AExactSpec) :=
  OpenClaim.holds_of_wide 3 Yba.f3 rfl rfl rfl rfl rfl rfl rfl ⟨rfl, rfl, rfl, rfl, rfl⟩ rfl rfl rfl rfl rfl (by kernel_rfl) Yba.func3 (by kernel_rfl)
    (of_decide_eq_true (by kernel_rfl)) (by unfold Func.isWrapper; first | (rw [if_pos (by decide +kernel)]; kernel_rfl) | (rw [if_neg (by decide +kernel)]; exact ⟨rfl, rfl⟩))
    (fun os started H enc _ => lifted os started H enc)

/-- ████ THE STATEMENT ████ -/
theorem proved : Rows.LawS4393AExactSaid := over
end Go.Proofs.Ybulkclym.lawS4393AExact
