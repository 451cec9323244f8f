/-
  PROOF OF 'Rows.LawS4393CFieldsSaid'. The frame after the shells of this seat, turned by hand for an array by value; the walks over the contracts in YbulkclymNonce.
-/
import Derived.Test.YbulkclymRows
import Derived.Test.YbulkclymNonce
import Derived.WalkKit
import Derived.ProofKit
import Derived.OpenShut
import Derived.ShutString
import Derived.ChangeOld
import Derived.Below
import Derived.OwnWalk
import Derived.LoopTactic
namespace Go.Proofs.Ybulkclym.lawS4393CFields
open Go.ChangeShapes Go.WideShapes Go.ChangeAt Go.RowKit
open Go.ChangeMaps (open_string shut_string)
set_option linter.unusedVariables false

theorem own : ownKnob Yba.prog.godebug = none := by kernel_rfl
theorem laidOut : laidOutB Yba.prog = true := by kernel_rfl
theorem cells5 : Yba.prog.cellsOf 5 = 1 := by kernel_rfl
theorem cells32 : Yba.prog.cellsOf 32 = 14 := by kernel_rfl

/-- WHAT THE WALK IS TOLD OF A SLICE OF INTEGERS THAT CAME IN: it is nil; or it leads to a row of 'cap' cells, the numbers 'zs' (the first 'len' are its elements, the rest its spare room), each fitting its kind. -/
def IsRow (k : IntKind) (w : World) (a : Option Addr) (len cap : Nat) (zs : List Int) : Prop :=
  (a = none ∧ len = 0 ∧ cap = 0 ∧ zs = []) ∨
  ∃ x, a = some x ∧ len ≤ cap ∧ cap ≤ maxLen ∧ zs.length = cap ∧ (∀ i, i < zs.length → w.cell? (x.add i) = some (.int k (zs.getD i 0))) ∧ ∀ n ∈ zs, (Lit.int k n).wf = true

theorem info5 : (Yba.prog.info? 5).map (fun i => (i.zero, i.size, i.bytes)) = some (some (.int .u8 0), 1, 1) := by kernel_rfl

/-! ### THE PLAIN LAW: what the first k bytes spell, the greatest first -/
def pre (z : Nat → Int) : Nat → Int
  | 0 => 0
  | k + 1 => pre z k * 256 + z k
theorem pre_nonneg (z : Nat → Int) (hb : ∀ i, 0 ≤ z i ∧ z i ≤ 255) : ∀ k, 0 ≤ pre z k
  | 0 => by simp [pre]
  | k + 1 => by have := pre_nonneg z hb k; have := hb k; simp only [pre]; omega
theorem pre_bd (z : Nat → Int) (hb : ∀ i, 0 ≤ z i ∧ z i ≤ 255) (k : Nat) (hk : k ≤ 5) : pre z k ≤ 1099511627775 := by
  have h0 := hb 0; have h1 := hb 1; have h2 := hb 2; have h3 := hb 3; have h4 := hb 4
  match k, hk with
  | 0, _ => simp [pre]
  | 1, _ => simp only [pre]; omega
  | 2, _ => simp only [pre]; omega
  | 3, _ => simp only [pre]; omega
  | 4, _ => simp only [pre]; omega
  | 5, _ => simp only [pre]; omega
theorem pre_six (z : Nat → Int) (hb : ∀ i, 0 ≤ z i ∧ z i ≤ 255) : pre z 6 ≤ 281474976710655 := by
  have h0 := pre_bd z hb 5 (by omega)
  have h1 := hb 5
  simp only [pre] at h0 ⊢
  omega
theorem seq_eq (z : Nat → Int) : z 5 + z 4 * 256 + z 3 * 65536 + z 2 * 16777216 + (z 1 + z 0 * 256) * 4294967296 = pre z 6 := by
  simp only [pre]
  omega
theorem step64 (x y : Int) (x0 : 0 ≤ x) (x1 : x ≤ 1099511627775) (y0 : 0 ≤ y) (y1 : y ≤ 255) :
    bits BinOp.or IntKind.u64 (x * 256) y = x * 256 + y := by
  rw [bits_join .u64 64 (by decide) wraps_u64 8 (x * 256) y (by omega) (by omega) (by omega) y0 (by omega) (by omega)]
theorem join16 (x y : Int) (x0 : 0 ≤ x) (x1 : x ≤ 255) (y0 : 0 ≤ y) (y1 : y ≤ 255) :
    bits BinOp.or IntKind.u16 (x * 256) y = y + x * 256 := by
  rw [bits_join .u16 16 (by decide) wraps_u16 8 (x * 256) y (by omega) (by omega) (by omega) y0 (by omega) (by omega)]
  omega

/-! ### THE WORLD BEHIND THE TWO APPENDS -/
def vals (z : Nat → Int) : List Value := [.int .u8 (z 0), .int .u8 (z 1), .int .u8 (z 2), .int .u8 (z 3), .int .u8 (z 4), .int .u8 (z 5), .int .u8 (z 6), .int .u8 (z 7), .int .u8 (z 8), .int .u8 (z 9), .int .u8 (z 10), .int .u8 (z 11), .int .u8 (z 12), .int .u8 (z 13)]
theorem vals_at (z : Nat → Int) (j : Nat) (hj : j < 14) : (vals z)[j]? = some (.int .u8 (z j)) := by
  match j, hj with
  | 0, _ => rfl
  | 1, _ => rfl
  | 2, _ => rfl
  | 3, _ => rfl
  | 4, _ => rfl
  | 5, _ => rfl
  | 6, _ => rfl
  | 7, _ => rfl
  | 8, _ => rfl
  | 9, _ => rfl
  | 10, _ => rfl
  | 11, _ => rfl
  | 12, _ => rfl
  | 13, _ => rfl
theorem vals_one (z : Nat → Int) : ∀ u ∈ vals z, u.oneCell' = true := by
  intro u hu
  obtain ⟨j, hj, rfl⟩ := List.mem_iff_getElem.1 hu
  have h := vals_at z j hj
  rw [List.getElem?_eq_getElem hj] at h
  rw [Option.some.inj h]
  rfl
theorem box_cell (z : Nat → Int) (w : World) (j : Nat) : (w.alloc (.cells #[.int .u8 (z 0), .int .u8 (z 1), .int .u8 (z 2), .int .u8 (z 3), .int .u8 (z 4), .int .u8 (z 5), .int .u8 (z 6), .int .u8 (z 7), .int .u8 (z 8), .int .u8 (z 9), .int .u8 (z 10), .int .u8 (z 11), .int .u8 (z 12), .int .u8 (z 13)] 32)).cell? ⟨w.heap.size, j, none⟩ = (vals z)[j]? := by
  rw [World.cell?_alloc_at _ _ _ _ rfl]
  show (vals z).toArray[j]? = _
  simp
theorem box_lies (z : Nat → Int) {w w0 : World} (hg : (w.alloc (.cells #[.int .u8 (z 0), .int .u8 (z 1), .int .u8 (z 2), .int .u8 (z 3), .int .u8 (z 4), .int .u8 (z 5), .int .u8 (z 6), .int .u8 (z 7), .int .u8 (z 8), .int .u8 (z 9), .int .u8 (z 10), .int .u8 (z 11), .int .u8 (z 12), .int .u8 (z 13)] 32)).grownBy w0 none) :
    ∀ j u, (vals z)[j]? = some u → w0.cell? ((⟨w.heap.size, 0, none⟩ : Addr).add j) = some u := by
  intro j u hu
  rw [add_plain, Nat.zero_add]
  refine hg.cell (by rw [box_cell]; exact hu) (by simp)

theorem src_kept {w w' : World} {b off : Nat} {xs : List Value} {row : Option Nat} (hg : w.grownBy w' row) (hr : row ≠ some b)
    (h : ∀ j u, xs[j]? = some u → w.cell? ((⟨b, off, none⟩ : Addr).add j) = some u) : ∀ j u, xs[j]? = some u → w'.cell? ((⟨b, off, none⟩ : Addr).add j) = some u := by
  intro j u hu
  have h1 := h j u hu
  rw [add_plain] at h1 ⊢
  exact hg.cell h1 (fun e => hr e.symm)

theorem src_of {w : World} {b off len : Nat} {A : List Int} (hA : A.length = len) (h : ∀ j, j < len → w.cell? ⟨b, off + j, none⟩ = some (.int .u8 (A.getD j 0))) :
    ∀ j u, (A.map (Value.int .u8))[j]? = some u → w.cell? ((⟨b, off, none⟩ : Addr).add j) = some u := by
  intro j u hu
  have hj : j < A.length := by have := (List.getElem?_eq_some_iff.1 hu).1; simpa using this
  rw [add_plain, h j (by omega), ← hu]
  simp [List.getElem?_eq_getElem hj]

/-- What the rest of the law reads. -/
structure Made (z : Nat → Int) (len : Nat) (A : List Int) (w w2 : World) : Prop where
  box : ∀ j, j < 14 → w2.cell? ⟨w.heap.size, j, none⟩ = some (.int .u8 (z j))
  low : ∀ j, j < 14 → w2.cell? ⟨w.heap.size + 1, 0 + j, none⟩ = some (.int .u8 (z j))
  high : ∀ j, j < len → w2.cell? ⟨w.heap.size + 1, 14 + j, none⟩ = some (.int .u8 (A.getD j 0))
  below : Below w.heap.size w w2
  size : w.heap.size + 1 < w2.heap.size

theorem made {z : Nat → Int} {w w0 w1 w2 : World} {len : Nat} {A : List Int} (hA : A.length = len) (hgrow0 : (w.alloc (.cells #[.int .u8 (z 0), .int .u8 (z 1), .int .u8 (z 2), .int .u8 (z 3), .int .u8 (z 4), .int .u8 (z 5), .int .u8 (z 6), .int .u8 (z 7), .int .u8 (z 8), .int .u8 (z 9), .int .u8 (z 10), .int .u8 (z 11), .int .u8 (z 12), .int .u8 (z 13)] 32)).grownBy w0 none) (hgrow1 : w0.grownBy w1 (some (w.heap.size + 1))) (hgrow2 : w1.grownBy w2 (some (w.heap.size + 1)))
    (hown2 : w2.ownsRow (w.heap.size + 1) 5 1 (Value.slice (some ⟨w.heap.size + 1, 0, none⟩) (14 + len) (14 + len)) (14 + len) ([] ++ vals z ++ A.map (Value.int .u8))) :
    Made z len A w w2 := by
  have hs0 := hgrow0.size
  have hs1 := hgrow1.size
  have hs2 := hgrow2.size
  simp only [World.size_alloc] at hs0
  have hb : Below w.heap.size w w2 :=
    ((((Below.refl _ _).alloc (Nat.le_refl _) _).grown hgrow0 (by simp) (by simp)).grown hgrow1 (by omega) (by simp)).grown hgrow2 (by omega) (by simp)
  have hlen : (vals z).length = 14 := rfl
  have hc := fun j (hj : j < 14 + len) => hown2.cellAt j (by omega)
  have hbox : ∀ j, j < 14 → w2.cell? ⟨w.heap.size, j, none⟩ = some (.int .u8 (z j)) := by
    intro j hj
    exact hgrow2.cell (hgrow1.cell (hgrow0.cell (by rw [box_cell, vals_at z j hj]) (by simp)) (by simp)) (by simp)
  refine ⟨hbox, ?_, ?_, hb, ?_⟩
  · intro j hj
    rw [Nat.zero_add, hc j (by omega), List.nil_append, List.getElem?_append_left (by rw [hlen]; omega), vals_at z j hj]
  · intro j hj
    rw [hc (14 + j) (by omega), List.nil_append, List.getElem?_append_right (by rw [hlen]; omega), hlen, show 14 + j - 14 = j by omega, List.getElem?_map, List.getElem?_eq_getElem (by omega)]
    simp [List.getElem?_eq_getElem (show j < A.length by omega)]
  · have h0 := hc 0 (by omega)
    rw [List.nil_append, List.getElem?_append_left (by rw [hlen]; omega), vals_at z 0 (by omega)] at h0
    exact World.block_lt_of_cell? _ _ h0

/-- The serial number's block. -/
abbrev S35 (z : Nat → Int) : Obj := .cells #[.int .u8 (z 6), .int .u8 (z 7), .int .u8 (z 8), .int .u8 (z 9), .int .u8 (z 10), .int .u8 (z 11)] 35
theorem ser_cell (z : Nat → Int) (w : World) (k : Nat) (hk : k < 6) : (w.alloc (S35 z)).cell? ⟨w.heap.size, k, none⟩ = some (.int .u8 (z (6 + k))) := by
  rw [World.cell?_alloc_at _ _ _ _ rfl]
  match k, hk with
  | 0, _ => rfl
  | 1, _ => rfl
  | 2, _ => rfl
  | 3, _ => rfl
  | 4, _ => rfl
  | 5, _ => rfl

theorem parse (g o n c : Nat) (z : Nat → Int) (w : World) (hn : 14 ≤ n) (hc : n ≤ c) (hm : c ≤ 2000) (hb : ∀ i, 0 ≤ z i ∧ z i ≤ 255)
    (cz : ∀ i, i < 14 → w.cell? ⟨g, o + i, none⟩ = some (.int .u8 (z i))) :
    Calls Yba.prog 7 #[.slice (some ⟨g, o, none⟩) n c] w fun e w' => e = .returned (.tuple #[.int .u64 (pre z 6),
      .agg #[.int .u8 (z 6), .int .u8 (z 7), .int .u8 (z 8), .int .u8 (z 9), .int .u8 (z 10), .int .u8 (z 11)], .int .u16 (z 13 + z 12 * 256)]) ∧ Below w.heap.size w w' := by
  have h := nonce.parse g o n c z w hn hc hm hb cz
  rw [seq_eq] at h
  exact h

/-- What the loops read, in the world behind the parse. -/
structure Ready (z : Nat → Int) (len : Nat) (A : List Int) (w w3 W : World) : Prop where
  box : ∀ j, j < 14 → W.cell? ⟨w.heap.size, j, none⟩ = some (.int .u8 (z j))
  low : ∀ j, j < 14 → W.cell? ⟨w.heap.size + 1, j, none⟩ = some (.int .u8 (z j))
  high : ∀ j, j < len → W.cell? ⟨w.heap.size + 1, 14 + j, none⟩ = some (.int .u8 (A.getD j 0))
  ser : ∀ j, j < 6 → W.cell? ⟨w3.heap.size, j, none⟩ = some (.int .u8 (z (6 + j)))
  below : Below w.heap.size w W

theorem ready {z : Nat → Int} {len : Nat} {A : List Int} {w w2 w3 : World} (hm : Made z len A w w2) (hb3 : Below w2.heap.size w2 w3) : Ready z len A w w3 (w3.alloc (S35 z)) := by
  have hs := hm.size
  have hs3 := hb3.size
  have past : ∀ b o v, w2.cell? ⟨b, o, none⟩ = some v → (w3.alloc (S35 z)).cell? ⟨b, o, none⟩ = some v := by
    intro b o v h
    have hlt : b < w2.heap.size := World.block_lt_of_cell? _ _ h
    rw [World.cell?_alloc_past _ _ _ (by omega), hb3.cell (p := ⟨b, o, none⟩) hlt]
    exact h
  refine ⟨fun j hj => past _ _ _ (hm.box j hj), fun j hj => past _ _ _ ?_, fun j hj => past _ _ _ (hm.high j hj), fun j hj => ser_cell z w3 j hj, (hm.below.trans (hb3.mono (by omega))).alloc (by omega) _⟩
  have := hm.low j hj
  rwa [Nat.zero_add] at this

set_option maxHeartbeats 2000000 in
theorem walk_yes (z : Nat → Int) (b off len cap : Nat) (A : List Int) (w : World) (hb : ∀ i, 0 ≤ z i ∧ z i ≤ 255) (hl : 0 < len) (hl' : len ≤ 1024) (hA : A.length = len)
    (hsrc : ∀ j, j < len → w.cell? ⟨b, off + j, none⟩ = some (.int .u8 (A.getD j 0))) :
    Calls Yba.prog 5 #[.agg #[.int .u8 (z 0), .int .u8 (z 1), .int .u8 (z 2), .int .u8 (z 3), .int .u8 (z 4), .int .u8 (z 5), .int .u8 (z 6), .int .u8 (z 7), .int .u8 (z 8), .int .u8 (z 9), .int .u8 (z 10), .int .u8 (z 11), .int .u8 (z 12), .int .u8 (z 13)], .slice (some ⟨b, off, none⟩) len cap] w fun e w' => e = .returned (.bool true) ∧ Below w.heap.size w w' := by
  obtain ⟨i0, hi, hz0, hz1, hz2⟩ := info_parts info5
  have hd1 : ¬ (1024 : Int) < (len : Int) := by omega
  have HS : Hid (∀ j, j < len → w.cell? ⟨b, off + j, none⟩ = some (.int .u8 (A.getD j 0))) := hsrc
  have hlt : b < w.heap.size := World.block_lt_of_cell? _ _ (hsrc 0 hl)
  clear hsrc
  have HB : Hid (∀ i, 0 ≤ z i ∧ z i ≤ 255) := hb
  clear hb
  go_enter Yba.func5, Yba.ntmps5
  go_wp2_with (at_make; refine wpList_make_own _ rfl _ _ 22 rfl (w.heap.size + 1) 5 i0 (.int .u8 0) 1 Yba.underlying22 hi hz0 hz1 _ _ _ (14 + len) rfl rfl (by omega) (by rw [hz2]; omega) (by unfold maxLen; omega) (by simp) ?_)
  intro w0 hown0 hgrow0
  have hs0 : Hid (w.heap.size + 1 ≤ w0.heap.size) := by have := hgrow0.size; rwa [World.size_alloc] at this
  go_wp2_with (first | (at_builtin; refine wpList_append_fits _ rfl (.tmp 21) (.tmp 22) 22 rfl (w.heap.size + 1) 5 i0 1 Yba.underlying22 hi hz1 (w.heap.size + 1) 0 (14 + len) _ rfl hown0 ⟨w.heap.size, 0, none⟩ 14 14 (vals z) rfl rfl (box_lies z hgrow0) (vals_one z) (by omega) ?_; intro w1 hown1 hgrow1) | (at_builtin; refine wpList_append_fits _ rfl (.tmp 24) (.tmp 25) 22 rfl (w.heap.size + 1) 5 i0 1 Yba.underlying22 hi hz1 (w.heap.size + 1) 14 (14 + len) _ rfl hown1 ⟨b, off, none⟩ len cap (A.map (Value.int .u8)) rfl (by simp [hA]) (src_kept hgrow1 (by simp; omega) (src_kept hgrow0 (by simp) (src_kept (World.grownBy_alloc _ _ none) (by simp) (src_of hA HS.out)))) (ints_oneCell _ _) (by omega) ?_; intro w2 hown2 hgrow2))
  have hM := made (z := z) hA hgrow0 hgrow1 hgrow2 hown2
  clear hown0 hgrow0 hown1 hgrow1 hown2 hgrow2 hs0
  refine (parse (w.heap.size + 1) 0 (14 + len) (14 + len) z w2 (by omega) (Nat.le_refl _) (by omega) HB.out hM.low).mono ?_
  rintro e w3 ⟨rfl, hb3⟩
  have hR := ready hM hb3
  have hz3 : w.heap.size + 1 < w3.heap.size := by have := hM.size; have := hb3.size; omega
  clear hM hb3
  have hp0 := pre_nonneg z HB.out 6
  have hp6 := pre_six z HB.out
  go_wp2
  generalize w3.alloc (.cells #[.int .u8 (z 6), .int .u8 (z 7), .int .u8 (z 8), .int .u8 (z 9), .int .u8 (z 10), .int .u8 (z 11)] 35) = W at hR ⊢
  go_loop [9, 10] (fun v i => ∃ k : Nat, k ≤ 6 ∧ i = .int .i64 k ∧ v = .int .u64 (pre z k)) (fun _ i => 6 - (intOf i).toNat)
  case atStart => exact ⟨0, by omega, rfl, rfl⟩
  case round =>
    obtain ⟨k, hk, rfl, rfl⟩ := hrel
    by_cases hlt6 : k < 6
    · have g1 := hR.box k (by omega)
      have p0 := pre_nonneg z HB.out k
      have p1 := pre_bd z HB.out k (by omega)
      have hzk := HB.out k
      have hst : Hid (bits BinOp.or IntKind.u64 (pre z k * 256) (z k) = pre z (k + 1)) := step64 _ _ p0 p1 hzk.1 hzk.2
      have i1 : (k : Int) < 6 := by omega
      go_wp2
      go_round
      case rel => exact ⟨k + 1, by omega, by go_num, congrArg (Value.int .u64) hst.out⟩
      case measure => simp [intOf]; omega
    · obtain rfl : k = 6 := by omega
      go_wp2
      go_loopw [11] (fun i wr => ∃ k n : Nat, k ≤ 6 ∧ i = .int .i64 k ∧ wr = W.drewN n) (fun i _ => 6 - (intOf i).toNat)
      case atStart => exact ⟨0, 0, Nat.zero_le _, rfl, rfl⟩
      case round =>
        obtain ⟨k, n, hk, rfl, rfl⟩ := hrel
        by_cases hlt6 : k < 6
        · have g1 := hR.box (6 + k) (by omega)
          have g2 := hR.ser k (by omega)
          have i1 : (k : Int) < 6 := by omega
          have i2 : (6 : Int) + (k : Int) < 14 := by omega
          go_wp2
          go_quiet (fail)
          go_wp2
          go_roundw
          case rel => exact ⟨k + 1, _, by omega, by go_num, rfl⟩
          case measure => simp [intOf]; omega
        · obtain rfl : k = 6 := by omega
          have g12 := hR.box 12 (by omega)
          have g13 := hR.box 13 (by omega)
          have h12 := HB.out 12
          have h13 := HB.out 13
          have hj := join16 (z 12) (z 13) h12.1 h12.2 h13.1 h13.2
          go_wp2
          go_loopw [12] (fun i wr => ∃ k n : Nat, k ≤ 14 ∧ i = .int .i64 k ∧ wr = W.drewN n) (fun i _ => 14 - (intOf i).toNat)
          case atStart => exact ⟨0, n, Nat.zero_le _, rfl, rfl⟩
          case round =>
            obtain ⟨k, n, hk, rfl, rfl⟩ := hrel
            by_cases hlt14 : k < 14
            · have g1 := hR.box k (by omega)
              have g2 := hR.low k (by omega)
              have i1 : (k : Int) < 14 := by omega
              have i2 : (k : Int) < 14 + (len : Int) := by omega
              go_wp2
              go_quiet (fail)
              go_wp2
              go_roundw
              case rel => exact ⟨k + 1, _, by omega, by go_num, rfl⟩
              case measure => simp [intOf]; omega
            · obtain rfl : k = 14 := by omega
              go_wp2
              go_loopw [13] (fun i wr => ∃ k n : Nat, k ≤ len ∧ i = .int .i64 k ∧ wr = W.drewN n) (fun i _ => len - (intOf i).toNat)
              case atStart => exact ⟨0, n, Nat.zero_le _, rfl, rfl⟩
              case round =>
                obtain ⟨k, n, hk, rfl, rfl⟩ := hrel
                by_cases hltl : k < len
                · have g1 := hR.high k hltl
                  have g2 : W.cell? ⟨b, off + k, none⟩ = some (.int .u8 (A.getD k 0)) := (hR.below.cell (p := ⟨b, off + k, none⟩) hlt).trans (HS.out k hltl)
                  have i1 : (k : Int) < (len : Int) := by omega
                  have i2 : (14 : Int) + (k : Int) < 14 + (len : Int) := by omega
                  go_wp2
                  go_quiet (fail)
                  go_wp2
                  go_roundw
                  case rel => exact ⟨k + 1, _, by omega, by go_num, rfl⟩
                  case measure => simp [intOf]; omega
                · go_wp2
                  go_ret
                  exact ⟨rfl, below_drewN hR.below _⟩

set_option maxHeartbeats 2000000 in
theorem walk_empty (z : Nat → Int) (cap : Nat) (ao : Option Addr) (w : World) (hb : ∀ i, 0 ≤ z i ∧ z i ≤ 255) (hnone : ao = none → cap = 0) :
    Calls Yba.prog 5 #[.agg #[.int .u8 (z 0), .int .u8 (z 1), .int .u8 (z 2), .int .u8 (z 3), .int .u8 (z 4), .int .u8 (z 5), .int .u8 (z 6), .int .u8 (z 7), .int .u8 (z 8), .int .u8 (z 9), .int .u8 (z 10), .int .u8 (z 11), .int .u8 (z 12), .int .u8 (z 13)], .slice ao 0 cap] w fun e w' => e = .returned (.bool true) ∧ Below w.heap.size w w' := by
  obtain ⟨i0, hi, hz0, hz1, hz2⟩ := info_parts info5
  have HN : Hid (ao = none → cap = 0) := hnone
  clear hnone
  have HB : Hid (∀ i, 0 ≤ z i ∧ z i ≤ 255) := hb
  clear hb
  go_enter Yba.func5, Yba.ntmps5
  go_wp2_with (at_make; refine wpList_make_own _ rfl _ _ 22 rfl (w.heap.size + 1) 5 i0 (.int .u8 0) 1 Yba.underlying22 hi hz0 hz1 _ _ _ (14) rfl rfl (by omega) (by rw [hz2]; omega) (by unfold maxLen; omega) (by simp) ?_)
  intro w0 hown0 hgrow0
  have hs0 : Hid (w.heap.size + 1 ≤ w0.heap.size) := by have := hgrow0.size; rwa [World.size_alloc] at this
  go_wp2_with (first | (at_builtin; refine wpList_append_fits _ rfl (.tmp 21) (.tmp 22) 22 rfl (w.heap.size + 1) 5 i0 1 Yba.underlying22 hi hz1 (w.heap.size + 1) 0 (14) _ rfl hown0 ⟨w.heap.size, 0, none⟩ 14 14 (vals z) rfl rfl (box_lies z hgrow0) (vals_one z) (by omega) ?_; intro w1 hown1 hgrow1) | (at_builtin; refine wpList_append_fits_any _ rfl (.tmp 24) (.tmp 25) 22 rfl (w.heap.size + 1) 5 i0 1 Yba.underlying22 hi hz1 (w.heap.size + 1) 14 14 _ rfl hown1 ao 0 cap [] rfl rfl (fun h => ⟨rfl, HN.out h⟩) (by intro ad _ j u hu; simp at hu) (by intro u hu; cases hu) (by omega) ?_; intro w2 hown2 hgrow2))
  have hM := made (z := z) (len := 0) (A := []) rfl hgrow0 hgrow1 hgrow2 hown2
  clear hown0 hgrow0 hown1 hgrow1 hown2 hgrow2 hs0
  refine (parse (w.heap.size + 1) 0 (14) (14) z w2 (by omega) (Nat.le_refl _) (by omega) HB.out hM.low).mono ?_
  rintro e w3 ⟨rfl, hb3⟩
  have hR := ready hM hb3
  have hz3 : w.heap.size + 1 < w3.heap.size := by have := hM.size; have := hb3.size; omega
  clear hM hb3
  have hp0 := pre_nonneg z HB.out 6
  have hp6 := pre_six z HB.out
  go_wp2
  generalize w3.alloc (.cells #[.int .u8 (z 6), .int .u8 (z 7), .int .u8 (z 8), .int .u8 (z 9), .int .u8 (z 10), .int .u8 (z 11)] 35) = W at hR ⊢
  go_loop [9, 10] (fun v i => ∃ k : Nat, k ≤ 6 ∧ i = .int .i64 k ∧ v = .int .u64 (pre z k)) (fun _ i => 6 - (intOf i).toNat)
  case atStart => exact ⟨0, by omega, rfl, rfl⟩
  case round =>
    obtain ⟨k, hk, rfl, rfl⟩ := hrel
    by_cases hlt6 : k < 6
    · have g1 := hR.box k (by omega)
      have p0 := pre_nonneg z HB.out k
      have p1 := pre_bd z HB.out k (by omega)
      have hzk := HB.out k
      have hst : Hid (bits BinOp.or IntKind.u64 (pre z k * 256) (z k) = pre z (k + 1)) := step64 _ _ p0 p1 hzk.1 hzk.2
      have i1 : (k : Int) < 6 := by omega
      go_wp2
      go_round
      case rel => exact ⟨k + 1, by omega, by go_num, congrArg (Value.int .u64) hst.out⟩
      case measure => simp [intOf]; omega
    · obtain rfl : k = 6 := by omega
      go_wp2
      go_loopw [11] (fun i wr => ∃ k n : Nat, k ≤ 6 ∧ i = .int .i64 k ∧ wr = W.drewN n) (fun i _ => 6 - (intOf i).toNat)
      case atStart => exact ⟨0, 0, Nat.zero_le _, rfl, rfl⟩
      case round =>
        obtain ⟨k, n, hk, rfl, rfl⟩ := hrel
        by_cases hlt6 : k < 6
        · have g1 := hR.box (6 + k) (by omega)
          have g2 := hR.ser k (by omega)
          have i1 : (k : Int) < 6 := by omega
          have i2 : (6 : Int) + (k : Int) < 14 := by omega
          go_wp2
          go_quiet (fail)
          go_wp2
          go_roundw
          case rel => exact ⟨k + 1, _, by omega, by go_num, rfl⟩
          case measure => simp [intOf]; omega
        · obtain rfl : k = 6 := by omega
          have g12 := hR.box 12 (by omega)
          have g13 := hR.box 13 (by omega)
          have h12 := HB.out 12
          have h13 := HB.out 13
          have hj := join16 (z 12) (z 13) h12.1 h12.2 h13.1 h13.2
          go_wp2
          go_loopw [12] (fun i wr => ∃ k n : Nat, k ≤ 14 ∧ i = .int .i64 k ∧ wr = W.drewN n) (fun i _ => 14 - (intOf i).toNat)
          case atStart => exact ⟨0, n, Nat.zero_le _, rfl, rfl⟩
          case round =>
            obtain ⟨k, n, hk, rfl, rfl⟩ := hrel
            by_cases hlt14 : k < 14
            · have g1 := hR.box k (by omega)
              have g2 := hR.low k (by omega)
              have i1 : (k : Int) < 14 := by omega
              go_wp2
              go_quiet (fail)
              go_wp2
              go_roundw
              case rel => exact ⟨k + 1, _, by omega, by go_num, rfl⟩
              case measure => simp [intOf]; omega
            · obtain rfl : k = 14 := by omega
              go_wp2
              refine wp_loop_rounds 1 ?_
              rw [rounds_succ]
              go_wp2
              go_ret
              exact ⟨rfl, below_drewN hR.below _⟩

set_option maxHeartbeats 1000000 in
theorem walk_long (z : Nat → Int) (a : Option Addr) (len cap : Nat) (w : World) (h : 1024 < len) :
    Calls Yba.prog 5 #[.agg #[.int .u8 (z 0), .int .u8 (z 1), .int .u8 (z 2), .int .u8 (z 3), .int .u8 (z 4), .int .u8 (z 5), .int .u8 (z 6), .int .u8 (z 7), .int .u8 (z 8), .int .u8 (z 9), .int .u8 (z 10), .int .u8 (z 11), .int .u8 (z 12), .int .u8 (z 13)], .slice a len cap] w fun e w' => e = .returned (.bool true) ∧ Below w.heap.size w w' := by
  have hd1 : (1024 : Int) < (len : Int) := by omega
  go_enter Yba.func5, Yba.ntmps5
  go_wp2
  go_ret
  exact ⟨rfl, (Below.refl _ _).alloc (Nat.le_refl _) _⟩


/-! ### THE ROW's STEP -/
theorem walk (z : Nat → Int) (a1 : Option Addr) (len1 cap1 : Nat) (z1 : List Int) (w : World) (hb : ∀ i, 0 ≤ z i ∧ z i ≤ 255) (w1 : IsRow .u8 w a1 len1 cap1 z1) :
    Calls Yba.prog 5 #[.agg #[.int .u8 (z 0), .int .u8 (z 1), .int .u8 (z 2), .int .u8 (z 3), .int .u8 (z 4), .int .u8 (z 5), .int .u8 (z 6), .int .u8 (z 7), .int .u8 (z 8), .int .u8 (z 9), .int .u8 (z 10), .int .u8 (z 11), .int .u8 (z 12), .int .u8 (z 13)], .slice a1 len1 cap1] w fun e w' => e = .returned (.bool true) ∧ Below w.heap.size w w' := by
  rcases w1 with ⟨rfl, rfl, rfl, rfl⟩ | ⟨x, rfl, hl, hm, hz, hcell, hwz⟩
  · exact walk_empty z 0 none w hb (fun _ => rfl)
  by_cases hbig : 1024 < len1
  · exact walk_long z _ len1 cap1 w hbig
  by_cases h0 : len1 = 0
  · subst h0
    exact walk_empty z cap1 _ w hb (by simp)
  obtain ⟨b, off, spot⟩ := x
  have hspot : spot = none := by simpa [Addr.add] using World.cell?_spot (hcell 0 (by omega))
  subst hspot
  have cz : ∀ j, j < len1 → w.cell? ⟨b, off + j, none⟩ = some (.int .u8 ((z1.take len1).getD j 0)) := fun j hj => by
    rw [← add_plain, hcell j (by omega)]
    simp [hj]
  have hA : (z1.take len1).length = len1 := by simp; omega
  exact walk_yes z b off len1 cap1 (z1.take len1) w hb (by omega) (by omega) hA cz

/-- AN ARRAY OF FOURTEEN BYTES BY VALUE, OPENED. -/
theorem open14 {H : Type} {enc : TypeId × Value → H} {w : World} {base : Nat} {sp : Nat → Bool} {held : Bool} {fuel : Nat} {l : List Value} {x : DataW H × List MemPlace}
    (hlen : l.length = 14) (h : DataW.trod enc Yba.prog w base sp held fuel 32 l = some x) : ∃ z : Nat → Int, l = [.int .u8 (z 0), .int .u8 (z 1), .int .u8 (z 2), .int .u8 (z 3), .int .u8 (z 4), .int .u8 (z 5), .int .u8 (z 6), .int .u8 (z 7), .int .u8 (z 8), .int .u8 (z 9), .int .u8 (z 10), .int .u8 (z 11), .int .u8 (z 12), .int .u8 (z 13)] ∧ ∀ i, 0 ≤ z i ∧ z i ≤ 255 := by
  obtain ⟨xs, m, rfl, rfl, _, hxs, hi⟩ := DataW.trod_array Yba.underlying32 h
  have key : ∀ i, i < 14 → ∃ n, l[i]? = some (.int .u8 n) ∧ 0 ≤ n ∧ n ≤ 255 := by
    intro i hi'
    have h1 := hi i hi'
    rw [cells5, Nat.mul_one, List.getElem?_eq_getElem (by omega)] at h1
    obtain ⟨n, e, _, wn⟩ := DataW.trod_int Yba.underlying5 h1
    refine ⟨n, ?_, bounds_u8 wn⟩
    have h2 := congrArg (fun (q : List Value) => q[0]?) e
    simpa using h2
  refine ⟨fun i => intOf (l[i]?.getD (.int .u8 0)), ?_, ?_⟩
  · have e : l = (List.range 14).map (fun i => Value.int .u8 (intOf (l[i]?.getD (.int .u8 0)))) := by
      apply List.ext_getElem?
      intro i
      by_cases h14 : i < 14
      · obtain ⟨n, hn, _⟩ := key i h14
        rw [List.getElem?_map, List.getElem?_range h14, Option.map_some, hn]
        rfl
      · rw [List.getElem?_eq_none (by omega), List.getElem?_eq_none (by simp; omega)]
    exact e
  · intro i
    show 0 ≤ intOf (l[i]?.getD (.int .u8 0)) ∧ intOf (l[i]?.getD (.int .u8 0)) ≤ 255
    by_cases h14 : i < 14
    · obtain ⟨n, hn, hb⟩ := key i h14
      rw [hn]
      exact hb
    · rw [List.getElem?_eq_none (by omega)]
      show (0 : Int) ≤ 0 ∧ (0 : Int) ≤ 255
      omega

set_option maxHeartbeats 1000000 in
set_option maxRecDepth 100000 in
theorem lifted (os : Os) (started : os.Started) (H : Type) (enc : TypeId × Value → H) :
    ReturnsInHanded {} Yba.checked os 5 .any (Rows.lawS4393CFieldsSpec.pre6 enc Yba.prog Yba.f5 Rows.lawS4393CFieldsRow.domain false) (Rows.lawS4393CFieldsSpec.post enc Yba.prog Yba.f5 false true false false) := by
  refine returnsInHanded_of_change (C := Yba.checked) own started (by kernel_rfl) Yba.func5
    (ChangeSpec.witness6 (enc := enc) (C := Yba.checked) false ⟨#[], #[.agg #[.int .u8 0, .int .u8 0, .int .u8 0, .int .u8 0, .int .u8 0, .int .u8 0, .int .u8 0, .int .u8 0, .int .u8 0, .int .u8 0, .int .u8 0, .int .u8 0, .int .u8 0, .int .u8 0], .slice none 0 0], []⟩ 8 (by kernel_rfl) (by kernel_rfl) (by kernel_rfl) (by kernel_rfl)) ?_
  intro W base args ds gs before hval0 hW hcnd _
  have hval : ∀ (j : Nat) t v, Yba.f5.params[j]? = some t → args[j]? = some v → Value.okWide Yba.prog W .any base t v := hval0
  have hW' := hW
  obtain ⟨p, q, hA0, hV, rfl, hfz, hnd⟩ := hW
  have hA : DataW.TrodAll enc Yba.prog W 0 (fun _ => true) true Yba.f5.params.toList args.toList ds p := hA0
  rw [Yba.params5] at hA hval
  obtain ⟨v0, vs0, d0, ds0, p0, q0, hargs, rfl, rfl, h0, r0⟩ := trodAll_cons hA
  obtain ⟨v1, vs1, d1, ds1, p1, q1, rfl, rfl, rfl, h1, r1⟩ := trodAll_cons r0
  obtain ⟨rfl, rfl, rfl⟩ := trodAll_nil r1
  obtain rfl : args = #[v0, v1] := by cases args; simp_all
  obtain ⟨rfl, rfl⟩ := trodVars_none hV
  have k0 := h0
  have lt0 : ∀ x ∈ p0, x.block < W.heap.size := by obtain ⟨m, hm⟩ := k0; exact DataW.trod_lt m _ _ _ hm
  obtain ⟨z, hv0, hb⟩ : ∃ z : Nat → Int, v0 = .agg #[.int .u8 (z 0), .int .u8 (z 1), .int .u8 (z 2), .int .u8 (z 3), .int .u8 (z 4), .int .u8 (z 5), .int .u8 (z 6), .int .u8 (z 7), .int .u8 (z 8), .int .u8 (z 9), .int .u8 (z 10), .int .u8 (z 11), .int .u8 (z 12), .int .u8 (z 13)] ∧ ∀ i, 0 ≤ z i ∧ z i ≤ 255 := by
    obtain ⟨cs, rfl, hsz, _⟩ : ∃ cs, v0 = .agg cs ∧ cs.size = Yba.prog.cellsOf 32 ∧ Row.okWide Yba.prog W .any base 32 cs := by
      have := hval 0 32 v0 rfl rfl
      simpa [Value.okWide, Yba.underlying32] using this
    rw [cells32] at hsz
    obtain ⟨l⟩ := cs
    obtain ⟨fuel, hf⟩ := h0
    obtain ⟨z, rfl, hb⟩ := open14 (l := l) (by simpa using hsz) (by simpa [Value.cells] using hf)
    exact ⟨z, rfl, hb⟩
  obtain ⟨a1, len1, cap1, rfl⟩ := okWide_slice Yba.underlying22 (hval 1 22 v1 rfl rfl)
  have k1 := h1
  have lt1 : ∀ x ∈ p1, x.block < W.heap.size := by obtain ⟨m, hm⟩ := k1; exact DataW.trod_lt m _ _ _ hm
  obtain ⟨z1, w1⟩ : ∃ zs, IsRow .u8 W a1 len1 cap1 zs := by
    obtain ⟨fuel, hf⟩ := h1
    rcases open_ints Yba.underlying22 Yba.underlying5 (by kernel_rfl) hf with ⟨hcs, _⟩ | ⟨x, l, c, zs, hcs, _, hl, hm, hz, _, hcell, hwz⟩
    · simp [Value.cells] at hcs
      obtain ⟨rfl, rfl, rfl⟩ := hcs
      exact ⟨[], .inl ⟨rfl, rfl, rfl, rfl⟩⟩
    · simp [Value.cells] at hcs
      obtain ⟨rfl, rfl, rfl⟩ := hcs
      exact ⟨zs, .inr ⟨_, rfl, hl, hm, by simpa using hz, hcell, hwz⟩⟩
  clear hA0 hval0
  subst hv0
  refine (walk z a1 len1 cap1 z1 W hb w1).mono fun e W' ⟨he, bel⟩ => ?_
  subst he
  exact ⟨_, rfl, _, _, _, [], _, [], hW', trodAll_mk1 (shut_bool Yba.underlying4 _), (trodAll_cons_mk (Below.trod laidOut (by kernel_rfl) (of_decide_eq_true (by kernel_rfl)) k0 bel lt0) (trodAll_cons_mk (Below.trod laidOut (by kernel_rfl) (of_decide_eq_true (by kernel_rfl)) k1 bel lt1) trodAll_mk0)), rfl, bel.frame _, fun h => by cases h⟩

theorem over : Rows.lawS4393CFieldsRow.holds Yba.pinned (OpenSpec.ofChange Rows.lawS4393CFieldsSpec) :=
  OpenClaim.holds_of_wide 5 Yba.f5 rfl rfl rfl rfl rfl rfl rfl ⟨rfl, rfl, rfl, rfl, rfl⟩ rfl rfl rfl rfl rfl (by kernel_rfl) Yba.func5 (by kernel_rfl)
    (of_decide_eq_true (by kernel_rfl)) (by unfold Func.isWrapper; first | (rw [if_pos (by decide +kernel)]; kernel_rfl) | (rw [if_neg (by decide +kernel)]; exact ⟨rfl, rfl⟩))
    (fun os started H enc _ => lifted os started H enc)

/-- ████ THE STATEMENT ████ -/
theorem proved : Rows.LawS4393CFieldsSaid := over
end Go.Proofs.Ybulkclym.lawS4393CFields
