/-
  LawS4391CRepair: the statement, over the walk of YbulkclxkGreatRepairWalk.
-/
import Derived.Test.YbulkclxkGreatRows
import Derived.Test.YbulkclxkGreatRepairWalk
import Derived.WalkKit
import Derived.ProofKit
import Derived.OpenShut
import Derived.ShutString
import Derived.Deep.SlicePairs
namespace Go.Proofs.YbulkclxkGreat.lawS4391CRepair
open Go.ChangeShapes Go.WideShapes Go.ChangeAt Go.RowKit Go.Deep
open Go.ChangeMaps (open_string shut_string)
set_option linter.unusedVariables false

theorem own : ownKnob Ybaz.prog.godebug = none := by kernel_rfl
theorem laidOut : laidOutB Ybaz.prog = true := by kernel_rfl

/-- The entries as they lie in memory. -/
def IsRowP (w : World) (a : Option Addr) (len cap : Nat) : Prop :=
  (a = none ∧ len = 0) ∨ ∃ (x : Addr) (A X : Nat → Nat), a = some x ∧ (∀ i, i < len → A i ≤ 255 ∧ X i ≤ 255) ∧ ∀ i, i < len → w.cell? (x.add (i * 2)) = some (.int .u8 (A i)) ∧ w.cell? (x.add (i * 2 + 1)) = some (.int .u8 (X i))

set_option maxRecDepth 100000 in
set_option maxHeartbeats 1000000 in
theorem walk_long (topic : ByteArray) (start : Int) (a : Option Addr) (len cap : Nat) (w : World) (h : 300 < len) :
    Calls Ybaz.prog 4 #[.string topic, .int .u64 start, .slice a len cap] w fun e w' => e = .returned (.bool true) ∧ Below w.heap.size w w' := by
  have h1 : (len : Int) > 300 := by omega
  go_enter Ybaz.func4, Ybaz.ntmps4
  go_wp2
  go_ret
  exact ⟨rfl, Below.refl _ _⟩

theorem walk (topic : ByteArray) (start : Int) (a : Option Addr) (len cap : Nat) (w : World) (ht : topic.size ≤ maxLen) (hr : IsRowP w a len cap) :
    Calls Ybaz.prog 4 #[.string topic, .int .u64 start, .slice a len cap] w fun e w' => e = .returned (.bool true) ∧ Below w.heap.size w w' := by
  by_cases hl : 300 < len
  · exact walk_long topic start a len cap w hl
  · rcases hr with ⟨rfl, rfl⟩ | ⟨⟨b, off, spot⟩, A, X, rfl, hb, hc⟩
    · exact rep.law_walk topic start none 0 0 0 cap (fun _ => 0) (fun _ => 0) w ht (by omega) (fun i hi => by omega) (fun h => by omega) (fun i hi => by omega)
    · rcases Nat.eq_zero_or_pos len with rfl | hp
      · exact rep.law_walk topic start (some ⟨b, off, spot⟩) 0 0 0 cap (fun _ => 0) (fun _ => 0) w ht (by omega) (fun i hi => by omega) (fun h => by omega) (fun i hi => by omega)
      · have hspot : spot = none := by
          have := (hc 0 hp).1
          simpa [Addr.add] using World.cell?_spot this
        subst hspot
        refine rep.law_walk topic start (some ⟨b, off, none⟩) b off len cap A X w ht (by omega) hb (fun _ => rfl) (fun i hi => ?_)
        have := hc i hi
        rw [Addr.add_mid, Addr.add_mid] at this
        exact ⟨this.1, by rw [Nat.add_assoc]; exact this.2⟩

/-! ### THE ROW's STEP -/
set_option maxRecDepth 100000 in
theorem lifted (os : Os) (started : os.Started) (H : Type) (enc : TypeId × Value → H) :
    ReturnsInHanded {} Ybaz.checked os 4 .any (Rows.lawS4391CRepairSpec.pre6 enc Ybaz.prog Ybaz.f4 Rows.lawS4391CRepairRow.domain false) (Rows.lawS4391CRepairSpec.post enc Ybaz.prog Ybaz.f4 false true false false) := by
  refine returnsInHanded_of_change (C := Ybaz.checked) own started (by kernel_rfl) Ybaz.func4
    (ChangeSpec.witness6 (enc := enc) (C := Ybaz.checked) false ⟨#[], #[.string ByteArray.empty, .int .u64 0, .slice none 0 0], []⟩ 8 (by kernel_rfl) (by kernel_rfl) (by kernel_rfl) (by kernel_rfl)) ?_
  intro W base args ds gs before hval0 hW hcnd _
  have hval : ∀ (j : Nat) t v, Ybaz.f4.params[j]? = some t → args[j]? = some v → Value.okWide Ybaz.prog W .any base t v := hval0
  have hW' := hW
  obtain ⟨p, q, hA0, hV, rfl, hfz, hnd⟩ := hW
  have hA : DataW.TrodAll enc Ybaz.prog W 0 (fun _ => true) true Ybaz.f4.params.toList args.toList ds p := hA0
  rw [Ybaz.params4] at hA hval
  obtain ⟨v0, vs0, d0, ds0, p0, q0, hargs, rfl, rfl, h0, r0⟩ := trodAll_cons hA
  obtain ⟨v1, vs1, d1, ds1, p1, q1, rfl, rfl, rfl, h1, r1⟩ := trodAll_cons r0
  obtain ⟨v2, vs2, d2, ds2, p2, q2, rfl, rfl, rfl, h2, r2⟩ := trodAll_cons r1
  obtain ⟨rfl, rfl, rfl⟩ := trodAll_nil r2
  obtain rfl : args = #[v0, v1, v2] := by cases args; simp_all
  obtain ⟨rfl, rfl⟩ := trodVars_none hV
  obtain ⟨a0, rfl, rfl, rfl, w0⟩ := open_string Ybaz.underlying9 (hval 0 9 v0 rfl rfl) h0
  obtain ⟨a1, rfl, rfl, rfl, w1⟩ := open_int Ybaz.underlying22 (hval 1 22 v1 rfl rfl) h1
  obtain ⟨a2, len2, cap2, rfl⟩ := okWide_slice Ybaz.underlying46 (hval 2 46 v2 rfl rfl)
  have k2 := h2
  have lt2 : ∀ x ∈ p2, x.block < W.heap.size := by obtain ⟨m, hm⟩ := k2; exact DataW.trod_lt m _ _ _ hm
  have w2 : IsRowP W a2 len2 cap2 := by
    obtain ⟨fuel, hf⟩ := h2
    rcases open_slice_pairs Ybaz.underlying46 Ybaz.underlying49 (by kernel_rfl) rfl rfl (by kernel_rfl) (by kernel_rfl) hf with ⟨hcs, _⟩ | ⟨x, l, c, m, n, V0, V1, D0, D1, P0, P1, hcs, _, hl, _, hm, _, hcell⟩
    · simp [Value.cells] at hcs
      exact .inl ⟨hcs.1, hcs.2.1⟩
    · simp [Value.cells] at hcs
      obtain ⟨rfl, rfl, rfl⟩ := hcs
      have hlm : len2 ≤ m := by rw [hm]; split <;> omega
      have each : ∀ i, i < len2 → (V0 i = .int .u8 ((intOf (V0 i)).toNat : Nat) ∧ V1 i = .int .u8 ((intOf (V1 i)).toNat : Nat)) ∧ (intOf (V0 i)).toNat ≤ 255 ∧ (intOf (V1 i)).toNat ≤ 255 := by
        intro i hi
        obtain ⟨_, _, t0, t1⟩ := hcell i (by omega)
        obtain ⟨n0, e0, _, f0⟩ := DataW.trod_int Ybaz.underlying5 t0
        obtain ⟨n1, e1, _, f1⟩ := DataW.trod_int Ybaz.underlying5 t1
        simp only [List.cons.injEq, and_true] at e0 e1
        have g0 : 0 ≤ n0 ∧ n0 ≤ 255 := by simp [Lit.wf, IntKind.min, IntKind.max, IntKind.signed, IntKind.bits] at f0; omega
        have g1 : 0 ≤ n1 ∧ n1 ≤ 255 := by simp [Lit.wf, IntKind.min, IntKind.max, IntKind.signed, IntKind.bits] at f1; omega
        rw [e0, e1]
        have h0' : ((n0.toNat : Nat) : Int) = n0 := by omega
        have h1' : ((n1.toNat : Nat) : Int) = n1 := by omega
        simp only [intOf]
        rw [h0', h1']
        exact ⟨⟨rfl, rfl⟩, by omega, by omega⟩
      refine .inr ⟨x, fun i => (intOf (V0 i)).toNat, fun i => (intOf (V1 i)).toNat, rfl, fun i hi => (each i hi).2, fun i hi => ?_⟩
      obtain ⟨c0, c1, _, _⟩ := hcell i (by omega)
      rw [(each i hi).1.1] at c0
      rw [(each i hi).1.2] at c1
      exact ⟨c0, c1⟩
  clear hA0 hval0
  simp only [List.append_nil] at hW'
  refine (walk a0 a1 a2 len2 cap2 W w0 w2).mono fun e W' ⟨he, hg⟩ => ?_
  subst he
  exact ⟨_, rfl, _, _, _, [], _, [], hW', trodAll_mk1 (shut_bool Ybaz.underlying4 _), (trodAll_cons_mk (shut_string Ybaz.underlying9 w0) (trodAll_cons_mk (shut_int Ybaz.underlying22 w1) (trodAll_cons_mk (Below.trod laidOut (by kernel_rfl) (of_decide_eq_true (by kernel_rfl)) k2 hg lt2) trodAll_mk0))), rfl, hg.frame _, fun h => by cases h⟩

theorem over : Rows.lawS4391CRepairRow.holds Ybaz.pinned (OpenSpec.ofChange Rows.lawS4391CRepairSpec) :=
  OpenClaim.holds_of_wide 4 Ybaz.f4 rfl rfl rfl rfl rfl rfl rfl ⟨rfl, rfl, rfl, rfl, rfl⟩ rfl rfl rfl rfl rfl (by kernel_rfl) Ybaz.func4 (by kernel_rfl)
    (of_decide_eq_true (by kernel_rfl)) (by unfold Func.isWrapper; first | (rw [if_pos (by decide +kernel)]; kernel_rfl) | (rw [if_neg (by decide +kernel)]; exact ⟨rfl, rfl⟩))
    (fun os started H enc _ => lifted os started H enc)

/-- ████ THE STATEMENT ████ -/
theorem proved : Rows.LawS4391CRepairSaid := over
end Go.Proofs.YbulkclxkGreat.lawS4391CRepair
