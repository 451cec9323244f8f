/-
  LawS4391CRoundRobin: the statement, over the walk of YbulkclxkGreatRobinWalk.
-/
import Derived.Test.YbulkclxkGreatRows
import Derived.Test.YbulkclxkGreatRobinWalk
import Derived.WalkKit
import Derived.ProofKit
import Derived.OpenShut
import Derived.ShutString
namespace Go.Proofs.YbulkclxkGreat.lawS4391CRoundRobin
open Go.ChangeShapes Go.WideShapes Go.ChangeAt Go.RowKit
open Go.ChangeMaps (open_string shut_string)
set_option linter.unusedVariables false

theorem own : ownKnob Ybaz.prog.godebug = none := by kernel_rfl

theorem walk (a0 : ByteArray) (a1 : Int) (a2 : Int) (a3 : Int) (w0 : a0.size ≤ maxLen) (w1 : (Lit.int .u64 a1).wf = true) (w2 : (Lit.int .u8 a2).wf = true) (w3 : (Lit.int .u8 a3).wf = true) (w : World) :
    Calls Ybaz.prog 3 #[.string a0, .int .u64 a1, .int .u8 a2, .int .u8 a3] w fun e w' => e = .returned (.bool true) ∧ Below w.heap.size w w' := by
  have h2 : 0 ≤ a2 ∧ a2 ≤ 255 := by simp [Lit.wf, IntKind.min, IntKind.max, IntKind.signed, IntKind.bits] at w2; omega
  have h3 : 0 ≤ a3 ∧ a3 ≤ 255 := by simp [Lit.wf, IntKind.min, IntKind.max, IntKind.signed, IntKind.bits] at w3; omega
  obtain ⟨n2, rfl⟩ : ∃ n : Nat, a2 = (n : Int) := ⟨a2.toNat, by omega⟩
  obtain ⟨n3, rfl⟩ : ∃ n : Nat, a3 = (n : Int) := ⟨a3.toNat, by omega⟩
  exact walk' a0 a1 n2 n3 (n2 % 40 + 1) (n3 % 100) (by omega) (by omega) rfl rfl w0 w

/-! ### THE ROW's STEP: WRITTEN OUT: LEAVE IT -/
set_option maxRecDepth 100000 in
theorem lifted (os : Os) (started : os.Started) (H : Type) (enc : TypeId × Value → H) :
    ReturnsInHanded {} Ybaz.checked os 3 .any (Rows.lawS4391CRoundRobinSpec.pre6 enc Ybaz.prog Ybaz.f3 Rows.lawS4391CRoundRobinRow.domain false) (Rows.lawS4391CRoundRobinSpec.post enc Ybaz.prog Ybaz.f3 false true false false) := by
  refine returnsInHanded_of_change (C := Ybaz.checked) own started (by kernel_rfl) Ybaz.func3
    (ChangeSpec.witness6 (enc := enc) (C := Ybaz.checked) false ⟨#[], #[.string ByteArray.empty, .int .u64 0, .int .u8 0, .int .u8 0], []⟩ 8 (by kernel_rfl) (by kernel_rfl) (by kernel_rfl) (by kernel_rfl)) ?_
  intro W base args ds gs before hval0 hW hcnd _
  have hval : ∀ (j : Nat) t v, Ybaz.f3.params[j]? = some t → args[j]? = some v → Value.okWide Ybaz.prog W .any base t v := hval0
  have hW' := hW
  obtain ⟨p, q, hA0, hV, rfl, hfz, hnd⟩ := hW
  have hA : DataW.TrodAll enc Ybaz.prog W 0 (fun _ => true) true Ybaz.f3.params.toList args.toList ds p := hA0
  rw [Ybaz.params3] at hA hval
  obtain ⟨v0, vs0, d0, ds0, p0, q0, hargs, rfl, rfl, h0, r0⟩ := trodAll_cons hA
  obtain ⟨v1, vs1, d1, ds1, p1, q1, rfl, rfl, rfl, h1, r1⟩ := trodAll_cons r0
  obtain ⟨v2, vs2, d2, ds2, p2, q2, rfl, rfl, rfl, h2, r2⟩ := trodAll_cons r1
  obtain ⟨v3, vs3, d3, ds3, p3, q3, rfl, rfl, rfl, h3, r3⟩ := trodAll_cons r2
  obtain ⟨rfl, rfl, rfl⟩ := trodAll_nil r3
  obtain rfl : args = #[v0, v1, v2, v3] := by cases args; simp_all
  obtain ⟨rfl, rfl⟩ := trodVars_none hV
  obtain ⟨a0, rfl, rfl, rfl, w0⟩ := open_string Ybaz.underlying9 (hval 0 9 v0 rfl rfl) h0
  obtain ⟨a1, rfl, rfl, rfl, w1⟩ := open_int Ybaz.underlying22 (hval 1 22 v1 rfl rfl) h1
  obtain ⟨a2, rfl, rfl, rfl, w2⟩ := open_int Ybaz.underlying5 (hval 2 5 v2 rfl rfl) h2
  obtain ⟨a3, rfl, rfl, rfl, w3⟩ := open_int Ybaz.underlying5 (hval 3 5 v3 rfl rfl) h3
  clear hA0 hval0
  simp only [List.append_nil] at hW'
  refine (walk a0 a1 a2 a3 w0 w1 w2 w3 W).mono fun e W' ⟨he, hg⟩ => ?_
  subst he
  exact ⟨_, rfl, _, _, _, [], _, [], hW', trodAll_mk1 (shut_bool Ybaz.underlying4 _), (trodAll_cons_mk (shut_string Ybaz.underlying9 w0) (trodAll_cons_mk (shut_int Ybaz.underlying22 w1) (trodAll_cons_mk (shut_int Ybaz.underlying5 w2) (trodAll_cons_mk (shut_int Ybaz.underlying5 w3) trodAll_mk0)))), rfl, hg.frame _, fun h => by cases h⟩

theorem over : Rows.lawS4391CRoundRobinRow.holds Ybaz.pinned (OpenSpec.ofChange Rows.lawS4391CRoundRobinSpec) :=
  OpenClaim.holds_of_wide 3 Ybaz.f3 rfl rfl rfl rfl rfl rfl rfl ⟨rfl, rfl, rfl, rfl, rfl⟩ rfl rfl rfl rfl rfl (by kernel_rfl) Ybaz.func3 (by kernel_rfl)
    (of_decide_eq_true (by kernel_rfl)) (by unfold Func.isWrapper; first | (rw [if_pos (by decide +kernel)]; kernel_rfl) | (rw [if_neg (by decide +kernel)]; exact ⟨rfl, rfl⟩))
    (fun os started H enc _ => lifted os started H enc)

/-- ████ THE STATEMENT ████ -/
theorem proved : Rows.LawS4391CRoundRobinSaid :=
  over

end Go.Proofs.YbulkclxkGreat.lawS4391CRoundRobin
