/-
  PROOF OF 'Rows.LawS4396CModelSaid'. The frame after the seats' shells, turned by hand for a slice of strings; the walks over the contracts in YbulkcmacIndex.
-/
import Derived.Test.YbulkcmacRows
import Derived.Test.YbulkcmacIndex
import Derived.WalkKit
import Derived.ProofKit
import Derived.OpenShut
import Derived.ShutString
import Derived.ChangeOld
import Derived.Below
import Derived.SliceStrings
import Derived.OwnWalk
import Derived.LoopTactic
import Derived.Deep.QuietTactic
import Derived.BigQuiet
import Derived.Laws.CopyOwn
namespace Go.Proofs.Ybulkcmac.lawS4396CModel
open Go.ChangeShapes Go.WideShapes Go.ChangeAt Go.RowKit
open Go.ChangeMaps (open_string shut_string)
set_option linter.unusedVariables false

theorem own : ownKnob Yba.prog.godebug = none := by kernel_rfl
theorem laidOut : laidOutB Yba.prog = true := by kernel_rfl

/-- WHAT THE WALK IS TOLD OF A SLICE OF STRINGS THAT CAME IN: it is nil; or it leads to a row of 'cap' cells, the strings 'ss' (the first 'len' are its elements). -/
def IsRowS (w : World) (a : Option Addr) (len cap : Nat) (ss : List ByteArray) : Prop :=
  (a = none ∧ len = 0 ∧ cap = 0 ∧ ss = []) ∨
  ∃ x, a = some x ∧ len ≤ cap ∧ cap ≤ maxLen ∧ ss.length = cap ∧ ∀ i, i < ss.length → w.cell? (x.add i) = some (.string (ss.getD i ByteArray.empty))

set_option maxHeartbeats 1000000 in
theorem walk_long (a : Option Addr) (len cap : Nat) (x : ByteArray) (w : World) (h : 1024 < len) :
    Calls Yba.prog 3 #[.slice a len cap, .string x] w fun e w' => e = .returned (.bool true) ∧ Below w.heap.size w w' := by
  have hd1 : (1024 : Int) < (len : Int) := by omega
  go_enter Yba.func3, Yba.ntmps3
  go_wp2
  go_ret
  exact ⟨rfl, Below.refl _ _⟩

set_option maxHeartbeats 1000000 in
theorem walk_any (a : Option Addr) (len cap : Nat) (x : ByteArray) (r : Int) (w : World) (h : len ≤ 1024)
    (h5 : ∀ wx, wx = w → Calls Yba.prog 5 #[.slice a len cap, .string x] wx fun e w' => e = .returned (.int .i64 r) ∧ w' = wx) (h6 : ∀ wx, wx = w → Calls Yba.prog 6 #[.slice a len cap, .string x] wx fun e w' => e = .returned (.int .i64 r) ∧ w' = wx) :
    Calls Yba.prog 3 #[.slice a len cap, .string x] w fun e w' => e = .returned (.bool true) ∧ Below w.heap.size w w' := by
  have hd1 : ¬ (1024 : Int) < (len : Int) := by omega
  have H5 : Hid (∀ wx, wx = w → Calls Yba.prog 5 #[.slice a len cap, .string x] wx fun e w' => e = .returned (.int .i64 r) ∧ w' = wx) := h5
  have H6 : Hid (∀ wx, wx = w → Calls Yba.prog 6 #[.slice a len cap, .string x] wx fun e w' => e = .returned (.int .i64 r) ∧ w' = wx) := h6
  clear h5 h6
  go_enter Yba.func3, Yba.ntmps3
  go_wp2_with (first
    | (go_at_call 5; refine (H5.out _ rfl).mono ?_; rintro e w' ⟨rfl, rfl⟩)
    | (go_at_call 6; refine (H6.out _ rfl).mono ?_; rintro e w' ⟨rfl, rfl⟩))
  go_ret
  exact ⟨rfl, Below.refl _ _⟩

theorem walk (a0 : Option Addr) (len0 cap0 : Nat) (ss : List ByteArray) (a1 : ByteArray) (w : World) (w0 : IsRowS w a0 len0 cap0 ss) :
    Calls Yba.prog 3 #[.slice a0 len0 cap0, .string a1] w fun e w' => e = .returned (.bool true) ∧ Below w.heap.size w w' := by
  by_cases hbig : 1024 < len0
  · exact walk_long a0 len0 cap0 a1 w hbig
  by_cases h0 : len0 = 0
  · subst h0
    exact walk_any a0 0 cap0 a1 0 w (by omega) (fun wx _ => index.file_none a0 cap0 a1 wx) (fun wx _ => index.mod_none a0 cap0 a1 wx)
  rcases w0 with ⟨_, h, _⟩ | ⟨x, rfl, hl, hm, hz, hcell⟩
  · exact absurd h h0
  obtain ⟨b, off, spot⟩ := x
  have hspot : spot = none := by simpa [Addr.add] using World.cell?_spot (hcell 0 (by omega))
  subst hspot
  have cz : ∀ j, j < len0 → w.cell? ⟨b, off + j, none⟩ = some (.string ((fun j => ss.getD j ByteArray.empty) j)) := fun j hj => by
    rw [← add_plain]; exact hcell j (by omega)
  rcases index.first_or_none (fun j => ss.getD j ByteArray.empty) a1 len0 with ⟨r, hr, hx, hn⟩ | hn
  · exact walk_any _ len0 cap0 a1 r w (by omega) (fun wx e => e ▸ index.file_hit b off len0 cap0 r _ a1 w (by omega) hr hx hn cz) (fun wx e => e ▸ index.mod_hit b off len0 cap0 r _ a1 w (by omega) hr hx hn cz)
  · exact walk_any _ len0 cap0 a1 len0 w (by omega) (fun wx e => e ▸ index.file_miss b off len0 cap0 _ a1 w (by omega) hn cz) (fun wx e => e ▸ index.mod_miss b off len0 cap0 _ a1 w (by omega) hn cz)

set_option maxRecDepth 100000 in
theorem lifted (os : Os) (started : os.Started) (H : Type) (enc : TypeId × Value → H) :
    ReturnsInHanded {} Yba.checked os 3 .any (Rows.lawS4396CModelSpec.pre6 enc Yba.prog Yba.f3 Rows.lawS4396CModelRow.domain false) (Rows.lawS4396CModelSpec.post enc Yba.prog Yba.f3 false true false false) := by
  refine returnsInHanded_of_change (C := Yba.checked) own started (by kernel_rfl) Yba.func3
    (ChangeSpec.witness6 (enc := enc) (C := Yba.checked) false ⟨#[], #[.slice none 0 0, .string ByteArray.empty], []⟩ 8 (by kernel_rfl) (by kernel_rfl) (by kernel_rfl) (by kernel_rfl)) ?_
  intro W base args ds gs before hval0 hW hcnd _
  have hval : ∀ (j : Nat) t v, Yba.f3.params[j]? = some t → args[j]? = some v → Value.okWide Yba.prog W .any base t v := hval0
  have hW' := hW
  obtain ⟨p, q, hA0, hV, rfl, hfz, hnd⟩ := hW
  have hA : DataW.TrodAll enc Yba.prog W 0 (fun _ => true) true Yba.f3.params.toList args.toList ds p := hA0
  rw [Yba.params3] at hA hval
  obtain ⟨v0, vs0, d0, ds0, p0, q0, hargs, rfl, rfl, h0, r0⟩ := trodAll_cons hA
  obtain ⟨v1, vs1, d1, ds1, p1, q1, rfl, rfl, rfl, h1, r1⟩ := trodAll_cons r0
  obtain ⟨rfl, rfl, rfl⟩ := trodAll_nil r1
  obtain rfl : args = #[v0, v1] := by cases args; simp_all
  obtain ⟨rfl, rfl⟩ := trodVars_none hV
  obtain ⟨a0, len0, cap0, rfl⟩ := okWide_slice Yba.underlying22 (hval 0 22 v0 rfl rfl)
  have k0 := h0
  have lt0 : ∀ x ∈ p0, x.block < W.heap.size := by obtain ⟨m, hm⟩ := k0; exact DataW.trod_lt m _ _ _ hm
  obtain ⟨ss, w0⟩ : ∃ ss, IsRowS W a0 len0 cap0 ss := by
    obtain ⟨fuel, hf⟩ := h0
    rcases open_strings Yba.underlying22 Yba.underlying9 (by kernel_rfl) hf with ⟨hcs, _⟩ | ⟨x, l, c, ss, hcs, _, hl, hm, hz, _, hcell, hws⟩
    · simp [Value.cells] at hcs
      obtain ⟨rfl, rfl, rfl⟩ := hcs
      exact ⟨[], .inl ⟨rfl, rfl, rfl, rfl⟩⟩
    · simp [Value.cells] at hcs
      obtain ⟨rfl, rfl, rfl⟩ := hcs
      exact ⟨ss, .inr ⟨_, rfl, hl, hm, by simpa using hz, hcell⟩⟩
  obtain ⟨a1, rfl, rfl, rfl, w1⟩ := open_string Yba.underlying9 (hval 1 9 v1 rfl rfl) h1
  clear hA0 hval0
  refine (walk a0 len0 cap0 ss a1 W w0).mono fun e W' ⟨he, bel⟩ => ?_
  subst he
  exact ⟨_, rfl, _, _, _, [], _, [], hW', trodAll_mk1 (shut_bool Yba.underlying4 _), (trodAll_cons_mk (Below.trod laidOut (by kernel_rfl) (of_decide_eq_true (by kernel_rfl)) k0 bel lt0) (trodAll_cons_mk (shut_string Yba.underlying9 w1) trodAll_mk0)), rfl, bel.frame _, fun h => by cases h⟩

theorem over : Rows.lawS4396CModelRow.holds Yba.pinned (OpenSpec.ofChange Rows.lawS4396CModelSpec) :=
  OpenClaim.holds_of_wide 3 Yba.f3 rfl rfl rfl rfl rfl rfl rfl ⟨rfl, rfl, rfl, rfl, rfl⟩ rfl rfl rfl rfl rfl (by kernel_rfl) Yba.func3 (by kernel_rfl)
    (of_decide_eq_true (by kernel_rfl)) (by unfold Func.isWrapper; first | (rw [if_pos (by decide +kernel)]; kernel_rfl) | (rw [if_neg (by decide +kernel)]; exact ⟨rfl, rfl⟩))
    (fun os started H enc _ => lifted os started H enc)

/-- ████ THE STATEMENT ████ -/
theorem proved : Rows.LawS4396CModelSaid := over
end Go.Proofs.Ybulkcmac.lawS4396CModel
