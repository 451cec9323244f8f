/-
  CONTRACTS OF THE TWO READERS OF encoding/binary AND OF secure.parseNonce over the dump 'ybulkclym'.
-/
import Derived.Test.YbulkclymRows
import Derived.WalkKit
import Derived.ProofKit
import Derived.RegionTactic
import Derived.WalkSpells
import Derived.WalkLawsBesides
import Derived.Below
import Derived.Deep.QuietTactic
import Derived.BigQuiet
import Derived.Lib.EndianBits
import Derived.Deep.RegionWith
import Derived.Deep.Cut
import Derived.Deep.DeepCutAuto
import Derived.Deep.RegionLaw
import Derived.Laws.CopyOwn
namespace Go.Proofs.Ybulkclym.nonce
open Go.ChangeShapes Go.WideShapes Go.ChangeAt Go.RowKit
set_option linter.unusedVariables false

set_option maxHeartbeats 1000000 in
theorem be16 (g o n c : Nat) (z0 z1 : Int) (w : World) (hn : 2 ≤ n) (b0 : 0 ≤ z0 ∧ z0 ≤ 255) (b1 : 0 ≤ z1 ∧ z1 ≤ 255)
    (c0 : w.cell? ⟨g, o, none⟩ = some (.int .u8 z0)) (c1 : w.cell? ⟨g, o + 1, none⟩ = some (.int .u8 z1)) :
    Calls Yba.prog 10 #[.agg #[], .slice (some ⟨g, o, none⟩) n c] w fun e w' => e = .returned (.int .u16 (z1 + z0 * 256)) ∧ ∃ k, w' = (w.alloc (.cells #[] 43)).drewN k := by
  have hlt : g < w.heap.size := World.block_lt_of_cell? _ _ c0
  have i0 : (0 : Int) < (n : Int) := by omega
  have i1 : (1 : Int) < (n : Int) := by omega
  go_enter Yba.func10, Yba.ntmps10
  go_wp2
  go_quiet (fail)
  go_wp2
  go_ret
  refine ⟨?_, _, rfl⟩
  simp (disch := omega) only [u16_or8]
  rfl

set_option maxHeartbeats 1000000 in
theorem be32 (g o n c : Nat) (z0 z1 z2 z3 : Int) (w : World) (hn : 4 ≤ n) (b0 : 0 ≤ z0 ∧ z0 ≤ 255) (b1 : 0 ≤ z1 ∧ z1 ≤ 255) (b2 : 0 ≤ z2 ∧ z2 ≤ 255) (b3 : 0 ≤ z3 ∧ z3 ≤ 255)
    (c0 : w.cell? ⟨g, o, none⟩ = some (.int .u8 z0)) (c1 : w.cell? ⟨g, o + 1, none⟩ = some (.int .u8 z1)) (c2 : w.cell? ⟨g, o + 2, none⟩ = some (.int .u8 z2)) (c3 : w.cell? ⟨g, o + 3, none⟩ = some (.int .u8 z3)) :
    Calls Yba.prog 11 #[.agg #[], .slice (some ⟨g, o, none⟩) n c] w fun e w' => e = .returned (.int .u32 (z3 + z2 * 256 + z1 * 65536 + z0 * 16777216)) ∧ ∃ k, w' = (w.alloc (.cells #[] 43)).drewN k := by
  have hlt : g < w.heap.size := World.block_lt_of_cell? _ _ c0
  have i0 : (0 : Int) < (n : Int) := by omega
  have i1 : (1 : Int) < (n : Int) := by omega
  have i2 : (2 : Int) < (n : Int) := by omega
  have i3 : (3 : Int) < (n : Int) := by omega
  go_enter Yba.func11, Yba.ntmps11
  go_wp2
  go_quiet (fail)
  go_wp2
  go_ret
  refine ⟨?_, _, rfl⟩
  simp (disch := omega) only [u32_or8, u32_or16, u32_or24]
  rfl

theorem join64 (x y : Int) (x0 : 0 ≤ x) (x1 : x < 65536) (y0 : 0 ≤ y) (y1 : y < 4294967296) :
    bits BinOp.or IntKind.u64 (IntKind.u64.wrap (IntKind.u64.wrap x * 4294967296)) (IntKind.u64.wrap y) = y + x * 4294967296 := by
  rw [u64_wrap_id x x0 (by omega), u64_wrap_id y y0 (by omega), u64_wrap_id (x * 4294967296) (by omega) (by omega)]
  rw [bits_join .u64 64 (by decide) wraps_u64 32 (x * 4294967296) y (by omega) (by omega) (by omega) y0 (by omega) (by omega)]
  omega

abbrev Z35 : Obj := .cells #[.int .u8 0, .int .u8 0, .int .u8 0, .int .u8 0, .int .u8 0, .int .u8 0] 35

theorem after1 (w : World) (k l : Nat) : ((((w.alloc Z35).alloc (.cells #[] 43)).drewN k).alloc (.cells #[] 43)).drewN l = (((w.alloc Z35).alloc (.cells #[] 43)).alloc (.cells #[] 43)).drewN (k + l) :=
  World.drewN_drewN (((w.alloc Z35).alloc (.cells #[] 43)).alloc (.cells #[] 43)) k l

theorem z35_lies (w : World) (k : Nat) : ((((w.alloc Z35).alloc (.cells #[] 43)).alloc (.cells #[] 43)).drewN k).heap[w.heap.size]? = some Z35 := by
  show (((w.heap.push _).push _).push _)[w.heap.size]? = _
  simp [Array.getElem?_push]
  omega

theorem six_lie {w wc : World} {g o : Nat} {a b c d e f : Value} (hb : Below w.heap.size w wc) (hlt : g < w.heap.size) (c6 : w.cell? ⟨g, o + 6, none⟩ = some a) (c7 : w.cell? ⟨g, o + 7, none⟩ = some b)
    (c8 : w.cell? ⟨g, o + 8, none⟩ = some c) (c9 : w.cell? ⟨g, o + 9, none⟩ = some d) (c10 : w.cell? ⟨g, o + 10, none⟩ = some e) (c11 : w.cell? ⟨g, o + 11, none⟩ = some f) :
    ∀ j u, [a, b, c, d, e, f][j]? = some u → wc.drew.cell? ((⟨g, o + 6, none⟩ : Addr).add j) = some u := by
  intro j u hj
  rw [add_plain]
  show wc.cell? _ = _
  rw [hb.cell (p := ⟨g, o + 6 + j, none⟩) hlt]
  match j, hj with
  | 0, hj => exact c6.trans (by simpa using hj)
  | 1, hj => exact c7.trans (by simpa using hj)
  | 2, hj => exact c8.trans (by simpa using hj)
  | 3, hj => exact c9.trans (by simpa using hj)
  | 4, hj => exact c10.trans (by simpa using hj)
  | 5, hj => exact c11.trans (by simpa using hj)
  | j + 6, hj => simp at hj

theorem six_one (a b c d e f : Int) : ∀ u ∈ [Value.int .u8 a, .int .u8 b, .int .u8 c, .int .u8 d, .int .u8 e, .int .u8 f], u.oneCell' = true := by
  intro u hu
  simp at hu
  rcases hu with rfl | rfl | rfl | rfl | rfl | rfl <;> rfl

theorem six_of {w4 : World} {B : Nat} {a b c d e f : Value} (h : Hid (w4.heap[B]? = some (.cells (splice [.int .u8 0, .int .u8 0, .int .u8 0, .int .u8 0, .int .u8 0, .int .u8 0] 0 [a, b, c, d, e, f]).toArray 35 (0, 0)))) :
    (w4.cell? ⟨B, 0, none⟩ = some a ∧ w4.cell? ⟨B, 1, none⟩ = some b ∧ w4.cell? ⟨B, 2, none⟩ = some c ∧ w4.cell? ⟨B, 3, none⟩ = some d ∧ w4.cell? ⟨B, 4, none⟩ = some e ∧ w4.cell? ⟨B, 5, none⟩ = some f) ∧
    (∀ j, w4.frozen? ⟨B, j, none⟩ = false) ∧ B < w4.heap.size := by
  have h1 : w4.heap[B]? = some (.cells #[a, b, c, d, e, f] 35 (0, 0)) := h
  refine ⟨⟨?_, ?_, ?_, ?_, ?_, ?_⟩, ?_, ?_⟩
  all_goals first | (simp [World.cell?, h1]; done) | (intro j; simp [World.frozen?, h1]; done) | exact (Array.getElem?_eq_some_iff.1 h1).1

theorem bcell {W w1 : World} (hb : Below W.heap.size W w1) : (∀ b o, b < W.heap.size → w1.cell? ⟨b, o, none⟩ = W.cell? ⟨b, o, none⟩) ∧ (∀ b o, b < W.heap.size → w1.frozen? ⟨b, o, none⟩ = W.frozen? ⟨b, o, none⟩) :=
  ⟨fun b o h => hb.cell (p := ⟨b, o, none⟩) h, fun b o h => hb.frozen (p := ⟨b, o, none⟩) h⟩

set_option maxHeartbeats 1000000 in
theorem parse (g o n c : Nat) (z : Nat → Int) (w : World) (hn : 14 ≤ n) (hc : n ≤ c) (hm : c ≤ 2000) (hb : ∀ i, 0 ≤ z i ∧ z i ≤ 255)
    (cz : ∀ i, i < 14 → w.cell? ⟨g, o + i, none⟩ = some (.int .u8 (z i))) :
    Calls Yba.prog 7 #[.slice (some ⟨g, o, none⟩) n c] w fun e w' => e = .returned (.tuple #[.int .u64 (z 5 + z 4 * 256 + z 3 * 65536 + z 2 * 16777216 + (z 1 + z 0 * 256) * 4294967296),
      .agg #[.int .u8 (z 6), .int .u8 (z 7), .int .u8 (z 8), .int .u8 (z 9), .int .u8 (z 10), .int .u8 (z 11)], .int .u16 (z 13 + z 12 * 256)]) ∧ Below w.heap.size w w' := by
  have hlt : g < w.heap.size := World.block_lt_of_cell? _ _ (cz 0 (by omega))
  have c0 : w.cell? ⟨g, o, none⟩ = some (.int .u8 (z 0)) := cz 0 (by omega)
  have c1 := cz 1 (by omega)
  have c2 := cz 2 (by omega)
  have c3 := cz 3 (by omega)
  have c4 := cz 4 (by omega)
  have c5 := cz 5 (by omega)
  have c6 := cz 6 (by omega)
  have c7 := cz 7 (by omega)
  have c8 := cz 8 (by omega)
  have c9 := cz 9 (by omega)
  have c10 := cz 10 (by omega)
  have c11 := cz 11 (by omega)
  have c12 := cz 12 (by omega)
  have c13 := cz 13 (by omega)
  clear cz
  have HB : Hid (∀ i, 0 ≤ z i ∧ z i ≤ 255) := hb
  clear hb
  have l2 : (2 : Int) ≤ (n : Int) := by omega
  have l12 : (12 : Int) ≤ (n : Int) := by omega
  have l12c : (12 : Int) ≤ (c : Int) := by omega
  have n2 : ¬ c = 2 := by omega
  have n6 : ¬ c = 6 := by omega
  have n12 : ¬ c = 12 := by omega
  have z0 := HB.out 0
  have z1 := HB.out 1
  have z2 := HB.out 2
  have z3 := HB.out 3
  have z4 := HB.out 4
  have z5 := HB.out 5
  have z12 := HB.out 12
  have z13 := HB.out 13
  go_enter Yba.func7, Yba.ntmps7
  go_wp2_with fail
  go_cut [2] from 5 to 15 (fun s wr => s = .int .u64 (z 5 + z 4 * 256 + z 3 * 65536 + z 2 * 16777216 + (z 1 + z 0 * 256) * 4294967296) ∧ Hid (wr.heap[w.heap.size]? = some Z35) ∧ Below w.heap.size w wr)
  case first =>
    go_region_with (first
      | (go_at_call 10; refine (be16 g o n c (z 0) (z 1) _ (by omega) (HB.out 0) (HB.out 1) (by go_simp) (by go_simp)).mono ?_; rintro e w' ⟨rfl, k, rfl⟩)
      | (go_at_call 11; refine (be32 g (o + 2) (n - 2) (c - 2) (z 2) (z 3) (z 4) (z 5) _ (by omega) (HB.out 2) (HB.out 3) (HB.out 4) (HB.out 5) (by go_simp) (by go_simp) (by go_simp) (by go_simp)).mono ?_; rintro e w' ⟨rfl, l, rfl⟩))
    all_goals (go_wp2_with fail; go_meet)
    all_goals
      refine ⟨?_, ?_, ?_⟩
      · rw [join64 _ _ (by omega) (by omega) (by omega) (by omega)]
      · show _ = _; rw [after1]; exact z35_lies w _
      · rw [after1]; exact below_drewN ((((Below.refl _ w).alloc (Nat.le_refl _) _).alloc (by simp) _).alloc (by simp; omega) _) _
  case rest =>
    obtain ⟨rfl, hz35, hbel⟩ := hcut
    go_wp2_with fail
    go_region_law (refine step_copy_splice rfl (.tmp 16) (.tmp 18) 22 22 rfl 5 Yba.underlying22 (by kernel_rfl) _ _ _ _ _ _ rfl rfl w.heap.size 0 [.int .u8 0, .int .u8 0, .int .u8 0, .int .u8 0, .int .u8 0, .int .u8 0] 35 hz35.out [.int .u8 (z 6), .int .u8 (z 7), .int .u8 (z 8), .int .u8 (z 9), .int .u8 (z 10), .int .u8 (z 11)] rfl (fun _ => ⟨rfl, _, rfl, six_lie hbel hlt c6 c7 c8 c9 c10 c11⟩) (by simp) (six_one _ _ _ _ _ _) w.heap.size w hbel.drew (Nat.le_refl _) ?_; intro w4 hg4 hb4)
    obtain ⟨⟨d0, d1, d2, d3, d4, d5⟩, df, hB4⟩ := six_of hg4
    obtain ⟨hc4, hf4⟩ := bcell hb4
    have hz4 := hb4.size
    have hlt4 : g < w4.heap.size := by omega
    have f0 := df 0
    have f1 := df 1
    have f2 := df 2
    have f3 := df 3
    have f4 := df 4
    have f5 := df 5
    clear hg4 hz35 hbel df
    go_wp2_with fail
    go_region_with (go_at_call 10; refine (be16 g (o + 12) (n - 12) (c - 12) (z 12) (z 13) _ (by omega) (HB.out 12) (HB.out 13) (by go_simp) (by go_simp)).mono ?_; rintro e w' ⟨rfl, k, rfl⟩)
    all_goals go_wp2_with fail
    all_goals refine bodyPost_ret (v := .tuple #[.int .u64 (z 5 + z 4 * 256 + z 3 * 65536 + z 2 * 16777216 + (z 1 + z 0 * 256) * 4294967296), .agg #[.int .u8 (z 6), .int .u8 (z 7), .int .u8 (z 8), .int .u8 (z 9), .int .u8 (z 10), .int .u8 (z 11)], .int .u16 (z 13 + z 12 * 256)]) ?_ rfl ⟨?_, ?_⟩
    all_goals first
      | exact rfl
      | exact ((((((below_drewN (hb4.alloc hz4 _) _).setCell (Nat.le_refl _) _).setCell (Nat.le_refl _) _).setCell (Nat.le_refl _) _).setCell (Nat.le_refl _) _).setCell (Nat.le_refl _) _).setCell (Nat.le_refl _) _
      | simp [results, Yba.results7, go_sem, hB4, d0, d1, d2, d3, d4, d5]
end Go.Proofs.Ybulkclym.nonce
