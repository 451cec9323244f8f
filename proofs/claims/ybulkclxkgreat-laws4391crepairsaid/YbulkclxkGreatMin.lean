import Derived.Test.YbulkclxkGreatBook
import Derived.Test.YbulkclxkGreatDel
import Derived.Deep.AppendLies
import Derived.Lib.SliceRun
namespace Go.Proofs.YbulkclxkGreat.rep
open Go.ChangeShapes Go.WideShapes Go.ChangeAt Go.RowKit
open lab ring maps sup put hold order del
set_option linter.unusedVariables false

set_option maxRecDepth 100000 in
set_option maxHeartbeats 1000000 in
theorem byNumber (x y : Nat) (hx : x < 24) (hy : y < 24) (w : World) :
    Calls Ybaz.prog 57 #[.agg #[.int .u64 (lb x), .int .u8 (ln x)], .agg #[.int .u64 (lb y), .int .u8 (ln y)]] w fun e w' => e = .returned (.int .i64 (cmpI x y)) ∧ Below w.heap.size w w' := by
  have HX : Hid (∀ wx, Calls Ybaz.prog 60 #[.agg #[.int .u64 (lb x), .int .u8 (ln x)]] wx fun e w' => e = .returned (.tuple #[.int .u64 x, .bool true]) ∧ Below wx.heap.size wx w') := fun wx => number_any x (by omega) wx
  have HY : Hid (∀ wx, Calls Ybaz.prog 60 #[.agg #[.int .u64 (lb y), .int .u8 (ln y)]] wx fun e w' => e = .returned (.tuple #[.int .u64 y, .bool true]) ∧ Below wx.heap.size wx w') := fun wx => number_any y (by omega) wx
  generalize lb x = bx at *
  generalize ln x = nx at *
  generalize hby : lb y = bY at *
  generalize hny : ln y = nY at *
  go_enter Ybaz.func57, Ybaz.ntmps57
  go_upto_region 2 with (go_at_call 60; refine (HX.out _).mono ?_; rintro e w1 ⟨rfl, hb1⟩)
  have k0 : w1.cell? ⟨w.heap.size + 1, 0, none⟩ = some (.int .u64 bY) := by rw [hb1.cell (p := ⟨w.heap.size + 1, 0, none⟩) (by simp)]; simp
  have k1 : w1.cell? ⟨w.heap.size + 1, 1, none⟩ = some (.int .u8 nY) := by rw [hb1.cell (p := ⟨w.heap.size + 1, 1, none⟩) (by simp)]; simp
  go_wp2_with (first
    | (go_at_call 60; refine (HY.out _).mono ?_; rintro e w2 ⟨rfl, hb2⟩)
    | (go_at_call 78; refine (cmp64 _ _ _).mono ?_; rintro e w3 ⟨rfl, rfl⟩))
  go_ret
  exact ⟨rfl, ((((Below.refl _ w).alloc (Nat.le_refl _) _).alloc (by simp) _).trans (hb1.mono (by simp; omega))).trans (hb2.mono (by have := hb1.size; simp at this; omega))⟩

set_option maxRecDepth 100000 in
set_option maxHeartbeats 1000000 in
theorem clone58 (B g c : Nat) (L : List (Int × Int)) (w : World) (hL : 0 < L.length) (hL2 : L.length ≤ 1000) (hown : w.ownsRow B 28 2 (.slice (some ⟨g, 0, none⟩) L.length c) L.length (flat2 L)) :
    Calls Ybaz.prog 58 #[.slice (some ⟨g, 0, none⟩) L.length c] w fun e w' => ∃ g' c', e = .returned (.slice (some ⟨g', 0, none⟩) L.length c') ∧ w'.ownsRow w.heap.size 28 2 (.slice (some ⟨g', 0, none⟩) L.length c') L.length (flat2 L) ∧ Below w.heap.size w w' := by
  obtain ⟨i0, hi0, hz0, hzs, hzb⟩ := info_parts info28
  have hc : ∀ j u, (flat2 L)[j]? = some u → (w.alloc (.cells #[] 28)).cell? ((⟨g, 0, none⟩ : Addr).add j) = some u := fun j u hj => by
    have h1 := hown.cells (g := g) rfl j u hj
    have e : ((⟨g, 0, none⟩ : Addr).add j) = ⟨g, j, none⟩ := by
      simp [Addr.add]
      exact fun h => h.symm
    rw [e] at h1 ⊢
    rw [World.cell?_alloc_past _ _ _ (hown.lt g rfl).2]; exact h1
  have HC : Hid (∀ j u, (flat2 L)[j]? = some u → (w.alloc (.cells #[] 28)).cell? ((⟨g, 0, none⟩ : Addr).add j) = some u) := hc
  clear hc
  have hown0 : (w.alloc (.cells #[] 28)).ownsRow w.heap.size 28 2 (.slice (some ⟨w.heap.size, 0, none⟩) 0 0) 0 [] :=
    ⟨rfl, .inr ⟨w.heap.size, 0, #[], rfl, Nat.le_refl _, heap_alloc_new _ _, Nat.le_refl _, by unfold maxLen; omega, rfl, rfl⟩⟩
  have hnil : ∀ wx, (binOp .eql 83 (.slice (some ⟨g, 0, none⟩) L.length c) (.slice none 0 0)).run Ybaz.prog wx = .ok (.bool false) wx := fun wx => Lib.run_eql_slice_nil wx 83 _ _ _ _ 0 0 Ybaz.underlying83
  go_enter Ybaz.func58, Ybaz.ntmps58
  go_wp2_with (at_builtin; refine wpList_append_lies _ rfl (.tmp 5) (.tmp 6) 83 rfl w.heap.size 28 i0 (.agg #[.int .u64 0, .int .u8 0]) 2 16 Ybaz.underlying83 hi0 hz0 hzs hzb rfl (by decide) _ 0 [] rfl hown0 ⟨g, 0, none⟩ L.length c (flat2 L) rfl (flat2_length L) HC.out (flat2_one L) hL (by unfold maxLen; omega) (by omega) (by simp) (w.heap.size + 1) (by simp) ?_; intro g' c' w1 hown1 hgrow hat hlt)
  go_ret
  rw [Nat.zero_add] at hown1
  have hb : Below w.heap.size w w1 := ((Below.refl _ w).alloc (Nat.le_refl _) _).grown hgrow (by simp) (fun k hk => by cases hk; exact Nat.le_refl _)
  exact ⟨g', c', by simp, by simpa using hown1, hb⟩

theorem nth2_lbl (xs : List Nat) (k : Nat) (h : k < xs.length) : nth2 (xs.map lbl) k = lbl xs[k] := by
  simp [nth2, List.getD_eq_getElem?_getD, List.getElem?_map, List.getElem?_eq_getElem h]

set_option maxRecDepth 100000 in
set_option maxHeartbeats 1000000 in
theorem minFunc (g c : Nat) (xs : List Nat) (w : World) (hx : ∀ x ∈ xs, x < 24) (hpos : 0 < xs.length) (hm : xs.length ≤ 1000) (hg : g < w.heap.size) (hP : Row2 w g xs.length (xs.map lbl)) :
    Calls Ybaz.prog 56 #[.slice (some ⟨g, 0, none⟩) xs.length c, .func (.func 57) #[] #[]] w fun e w' => ∃ y, y ∈ xs ∧ e = .returned (.agg #[.int .u64 (lb y), .int .u8 (ln y)]) ∧ Below w.heap.size w w' := by
  have HP : Hid (Row2 w g xs.length (xs.map lbl)) := hP
  have HX : Hid (∀ x ∈ xs, x < 24) := hx
  have hga : ∀ o1, Row2 (w.alloc o1) g xs.length (xs.map lbl) := fun o1 => hP.later ((Below.refl _ w).alloc (Nat.le_refl _) _) hg
  obtain ⟨z0, z1⟩ := hga (.cells #[.int .u64 0, .int .u8 0] 28) 0 hpos
  rw [nth2_lbl xs 0 hpos] at z0 z1
  simp only [Nat.zero_mul, Nat.zero_add] at z0 z1
  have y0 : xs[0] ∈ xs := List.getElem_mem _
  generalize xs[0] = x0 at z0 z1 y0
  clear hP hx hga
  have i1 : ¬ ((xs.length : Int) < 1) := by omega
  have i2 : (0 : Int) < (xs.length : Int) := by omega
  go_enter Ybaz.func56, Ybaz.ntmps56
  go_wp2
  go_loopw [6] (fun i wr => ∃ k y : Nat, k ≤ xs.length ∧ i = .int .i64 k ∧ y ∈ xs ∧ Below w.heap.size w wr ∧ wr.heap[w.heap.size]? = some (.cells #[.int .u64 0, .int .u8 0] 28 (0, 0)) ∧ wr.heap[w.heap.size + 1]? = some (.cells #[.int .u64 (lbl y).1, .int .u8 (lbl y).2] 28 (0, 0))) (fun i _ => xs.length - (intOf i).toNat)
  case atStart =>
    refine ⟨1, x0, by omega, rfl, y0, ((Below.refl _ w).alloc (Nat.le_refl _) _).alloc (by simp) _, ?_, ?_⟩
    · rw [Below.heap_alloc _ _ _ (by simp)]; exact heap_alloc_new _ _
    · have := heap_alloc_new (w.alloc (.cells #[.int .u64 0, .int .u8 0] 28)) (.cells #[.int .u64 (lbl x0).1, .int .u8 (lbl x0).2] 28)
      rwa [World.size_alloc] at this
  case round =>
    obtain ⟨k, y, hk, rfl, hy, hB, hb0, hb1⟩ := hrel
    have hszr : w.heap.size + 1 < wr.heap.size := (Array.getElem?_eq_some_iff.1 hb1).1
    have m0 : wr.cell? ⟨w.heap.size + 1, 0, none⟩ = some (.int .u64 (lbl y).1) := by simp [World.cell?, hb1]
    have m1 : wr.cell? ⟨w.heap.size + 1, 1, none⟩ = some (.int .u8 (lbl y).2) := by simp [World.cell?, hb1]
    by_cases hkr : k < xs.length
    · obtain ⟨a0, a1⟩ := (HP.out.later hB hg) k hkr
      rw [nth2_lbl xs k hkr] at a0 a1
      have hxk : xs[k] ∈ xs := List.getElem_mem _
      generalize xs[k] = x at a0 a1 hxk
      have j1 : (k : Int) < (xs.length : Int) := by omega
      have HC := byNumber x y (HX.out x hxk) (HX.out y hy)
      have HCv : Hid (∀ wx, Calls Ybaz.prog 57 #[.agg #[.int .u64 (lbl x).1, .int .u8 (lbl x).2], .agg #[.int .u64 (lbl y).1, .int .u8 (lbl y).2]] wx fun e w' => e = .returned (.int .i64 (cmpI x y)) ∧ Below wx.heap.size wx w') := HC
      clear HC
      have hgw : g < wr.heap.size := by omega
      generalize cmpI x y = r at HCv
      go_wp2_with fail
      go_region_held3 (fun w' => w'.cell? ⟨g, k * 2, none⟩ = some (.int .u64 (lbl x).1) ∧ w'.cell? ⟨g, k * 2 + 1, none⟩ = some (.int .u8 (lbl x).2) ∧ w'.cell? ⟨w.heap.size + 1, 0, none⟩ = some (.int .u64 (lbl y).1) ∧ w'.cell? ⟨w.heap.size + 1, 1, none⟩ = some (.int .u8 (lbl y).2))
        (first | exact ⟨q0, q1, q2, q3⟩ | go_keep)
        ((go_at_call 57; refine (HCv.out _).mono ?_; rintro e w2 ⟨rfl, hb2⟩
          have q0 : w2.cell? ⟨g, k * 2, none⟩ = some (.int .u64 (lbl x).1) := (hb2.cell (p := ⟨g, k * 2, none⟩) hgw).trans a0
          have q1 : w2.cell? ⟨g, k * 2 + 1, none⟩ = some (.int .u8 (lbl x).2) := (hb2.cell (p := ⟨g, k * 2 + 1, none⟩) hgw).trans a1
          have q2 : w2.cell? ⟨w.heap.size + 1, 0, none⟩ = some (.int .u64 (lbl y).1) := (hb2.cell (p := ⟨w.heap.size + 1, 0, none⟩) (by simp; omega)).trans m0
          have q3 : w2.cell? ⟨w.heap.size + 1, 1, none⟩ = some (.int .u8 (lbl y).2) := (hb2.cell (p := ⟨w.heap.size + 1, 1, none⟩) (by simp; omega)).trans m1))
      all_goals (
        have g0 : w2.heap[w.heap.size]? = some (.cells #[.int .u64 0, .int .u8 0] 28 (0, 0)) := (hb2.block _ (by simp; omega)).trans hb0
        have g1 : w2.heap[w.heap.size + 1]? = some (.cells #[.int .u64 (lbl y).1, .int .u8 (lbl y).2] 28 (0, 0)) := (hb2.block _ (by simp; omega)).trans hb1
        have hB2 : Below w.heap.size w w2 := hB.drew.trans (hb2.mono (by have := hB.size; simpa using this))
        have f0 : w2.frozen? ⟨w.heap.size + 1, 0, none⟩ = false := by simp [World.frozen?, g1]
        have f1 : w2.frozen? ⟨w.heap.size + 1, 1, none⟩ = false := by simp [World.frozen?, g1])
      all_goals (
        by_cases hr : r < 0
        · go_wp2
          have hst := setCell_at _ (w.heap.size + 1) 1 (.int .u8 (lbl x).2) _ _ (setCell_at w2 (w.heap.size + 1) 0 (.int .u64 (lbl x).1) _ _ g1)
          go_roundw
          case rel =>
            refine ⟨k + 1, x, by omega, by go_num, hxk, ?_, ?_, ?_⟩
            · exact (hB2.setCell (p := ⟨w.heap.size + 1, 0, none⟩) (by show w.heap.size ≤ w.heap.size + 1; omega) _).setCell (p := ⟨w.heap.size + 1, 1, none⟩) (by show w.heap.size ≤ w.heap.size + 1; omega) _
            · rw [Below.heap_setCell _ _ _ _ (by show w.heap.size ≠ w.heap.size + 1; omega), Below.heap_setCell _ _ _ _ (by show w.heap.size ≠ w.heap.size + 1; omega)]; exact g0
            · refine hst.trans ?_
              simp
          case measure => simp [intOf]; omega
        · go_wp2
          go_roundw
          case rel => exact ⟨k + 1, y, by omega, by go_num, hy, hB2, g0, g1⟩
          case measure => simp [intOf]; omega)
    · have z0 : wr.cell? ⟨w.heap.size, 0, none⟩ = some (.int .u64 0) := by simp [World.cell?, hb0]
      have z1 : wr.cell? ⟨w.heap.size, 1, none⟩ = some (.int .u8 0) := by simp [World.cell?, hb0]
      have f0 : wr.frozen? ⟨w.heap.size, 0, none⟩ = false := by simp [World.frozen?, hb0]
      have f1 : wr.frozen? ⟨w.heap.size, 1, none⟩ = false := by simp [World.frozen?, hb0]
      go_wp2
      have hst := setCell_at _ w.heap.size 1 (.int .u8 (lbl y).2) _ _ (setCell_at wr w.heap.size 0 (.int .u64 (lbl y).1) _ _ hb0)
      have q0 : ((wr.setCell ⟨w.heap.size, 0, none⟩ (.int .u64 (lbl y).1)).setCell ⟨w.heap.size, 1, none⟩ (.int .u8 (lbl y).2)).cell? ⟨w.heap.size, 0, none⟩ = some (.int .u64 (lbl y).1) := by simp only [World.cell?, hst]; rfl
      have q1 : ((wr.setCell ⟨w.heap.size, 0, none⟩ (.int .u64 (lbl y).1)).setCell ⟨w.heap.size, 1, none⟩ (.int .u8 (lbl y).2)).cell? ⟨w.heap.size, 1, none⟩ = some (.int .u8 (lbl y).2) := by simp only [World.cell?, hst]; rfl
      refine bodyPost_ret (v := .agg #[.int .u64 (lbl y).1, .int .u8 (lbl y).2]) (by simp [results, Ybaz.results56, go_sem, q0, q1]) rfl ⟨y, hy, rfl, ?_⟩
      exact (hB.setCell (p := ⟨w.heap.size, 0, none⟩) (Nat.le_refl _) _).setCell (p := ⟨w.heap.size, 1, none⟩) (Nat.le_refl _) _
end Go.Proofs.YbulkclxkGreat.rep
