import Derived.Test.YbulkclxkGreatLab
import Derived.Deep.RegionHeld3
namespace Go.Proofs.YbulkclxkGreat.ring
open Go.ChangeShapes Go.WideShapes Go.ChangeAt Go.RowKit
open lab
set_option linter.unusedVariables false

/-- A peer: an address and a label. -/
structure Pr where
  a : ByteArray
  b : Int
  n : Int

/-- The first m peers of the row at the head of block g. -/
def Row (w : World) (g m : Nat) (P : Nat → Pr) : Prop :=
  ∀ j, j < m → w.cell? ⟨g, j * 3, none⟩ = some (.string (P j).a) ∧ w.cell? ⟨g, j * 3 + 1, none⟩ = some (.int .u64 (P j).b) ∧ w.cell? ⟨g, j * 3 + 2, none⟩ = some (.int .u8 (P j).n)

theorem Row.later {w w' : World} {g m B : Nat} {P : Nat → Pr} (h : Row w g m P) (hb : Below B w w') (hg : g < B) : Row w' g m P := by
  intro j hj
  obtain ⟨h0, h1, h2⟩ := h j hj
  exact ⟨(hb.cell (p := ⟨g, j * 3, none⟩) hg).trans h0, (hb.cell (p := ⟨g, j * 3 + 1, none⟩) hg).trans h1, (hb.cell (p := ⟨g, j * 3 + 2, none⟩) hg).trans h2⟩

theorem bcell {W w1 : World} (hb : Below W.heap.size W w1) : (∀ b o, b < W.heap.size → w1.cell? ⟨b, o, none⟩ = W.cell? ⟨b, o, none⟩) ∧ (∀ b o, b < W.heap.size → w1.frozen? ⟨b, o, none⟩ = W.frozen? ⟨b, o, none⟩) :=
  ⟨fun b o h => hb.cell (p := ⟨b, o, none⟩) h, fun b o h => hb.frozen (p := ⟨b, o, none⟩) h⟩

set_option maxHeartbeats 1000000 in
theorem bsearch_any (g m c pos : Nat) (P : Nat → Pr) (tb tn : Int) (found : Bool) (w : World) (hm : m ≤ 1000000) (hg : g < w.heap.size) (hP : Row w g m P) (hn : ∀ j, j < m → 0 ≤ (P j).n ∧ (P j).n ≤ 64) (ht : 0 ≤ tn ∧ tn ≤ 64)
    (hpos : pos ≤ m) (hlo : ∀ j, j < pos → lkey (P j).b (P j).n < lkey tb tn) (hhi : ∀ j, pos ≤ j → j < m → lkey tb tn ≤ lkey (P j).b (P j).n) (hf : found = true → pos < m ∧ lkey (P pos).b (P pos).n = lkey tb tn) (hnf : found = false → pos < m → lkey tb tn < lkey (P pos).b (P pos).n) :
    Calls Ybaz.prog 46 #[.slice (some ⟨g, 0, none⟩) m c, .agg #[.int .u64 tb, .int .u8 tn], .func (.func 47) #[] #[]] w fun e w' => e = .returned (.tuple #[.int .i64 pos, .bool found]) ∧ Below w.heap.size w w' := by
  have HP : Hid (Row w g m P) := hP
  have HN : Hid (∀ j, j < m → 0 ≤ (P j).n ∧ (P j).n ≤ 64) := hn
  have HLO : Hid (∀ j, j < pos → lkey (P j).b (P j).n < lkey tb tn) := hlo
  have HHI : Hid (∀ j, pos ≤ j → j < m → lkey tb tn ≤ lkey (P j).b (P j).n) := hhi
  have HF : Hid (found = true → pos < m ∧ lkey (P pos).b (P pos).n = lkey tb tn) := hf
  have HNF : Hid (found = false → pos < m → lkey tb tn < lkey (P pos).b (P pos).n) := hnf
  clear hP hn hlo hhi hf hnf
  go_enter Ybaz.func46, Ybaz.ntmps46
  go_wp2
  go_loopw [9, 10] (fun vi vj wr => ∃ i j : Nat, vi = .int .i64 i ∧ vj = .int .i64 j ∧ i ≤ pos ∧ pos ≤ j ∧ j ≤ m ∧ Below (w.heap.size + 1) (w.alloc (.cells #[.int .u64 tb, .int .u8 tn] 28)) wr) (fun vi vj _ => (intOf vj).toNat - (intOf vi).toNat)
  case atStart => exact ⟨0, m, rfl, rfl, Nat.zero_le _, hpos, Nat.le_refl _, Below.refl _ _⟩
  case round =>
    obtain ⟨i, j, rfl, rfl, hi, hj, hjm, hbel⟩ := hrel
    have hwr : w.heap.size < wr.heap.size := by have := hbel.size; simp at this; omega
    have hgr : g < wr.heap.size := by have := hbel.size; simp at this; omega
    have hRow : Row wr g m P := HP.out.later (((Below.refl _ w).alloc (Nat.le_refl _) _).trans (hbel.mono (by omega))) hg
    have t0 : wr.cell? ⟨w.heap.size, 0, none⟩ = some (.int .u64 tb) := by rw [hbel.cell (p := ⟨w.heap.size, 0, none⟩) (by simp)]; simp
    have t1 : wr.cell? ⟨w.heap.size, 1, none⟩ = some (.int .u8 tn) := by rw [hbel.cell (p := ⟨w.heap.size, 1, none⟩) (by simp)]; simp
    by_cases hlt : i < j
    · obtain ⟨h, hh1, hh2⟩ : ∃ h : Nat, 2 * h ≤ i + j ∧ i + j ≤ 2 * h + 1 := ⟨(i + j) / 2, by omega, by omega⟩
      obtain ⟨c0, c1, c2⟩ := hRow h (by omega)
      have ih : (h : Int) < (m : Int) := by omega
      have eh : ((i : Int) + (j : Int)) / 2 = (h : Int) := by omega
      clear hRow
      by_cases hhp : h < pos
      · have hc : ∀ wx, Calls Ybaz.prog 47 #[.agg #[.string (P h).a, .int .u64 (P h).b, .int .u8 (P h).n], .agg #[.int .u64 tb, .int .u8 tn]] wx fun e w' => e = .returned (.int .i64 (-1)) ∧ Below wx.heap.size wx w' := by
          intro wx
          have := search1_any (P h).a (P h).b (P h).n tb tn wx (HN.out h (by omega)).1 (HN.out h (by omega)).2 ht.1 ht.2
          rw [cmpI_lt (HLO.out h hhp)] at this
          exact this
        have HC : Hid (∀ wx, Calls Ybaz.prog 47 #[.agg #[.string (P h).a, .int .u64 (P h).b, .int .u8 (P h).n], .agg #[.int .u64 tb, .int .u8 tn]] wx fun e w' => e = .returned (.int .i64 (-1)) ∧ Below wx.heap.size wx w') := hc
        clear hc
        go_wp2_with fail
        go_region_held3 (fun w' => w'.cell? ⟨g, h * 3, none⟩ = some (.string (P h).a) ∧ w'.cell? ⟨g, h * 3 + 1, none⟩ = some (.int .u64 (P h).b) ∧ w'.cell? ⟨g, h * 3 + 2, none⟩ = some (.int .u8 (P h).n) ∧ w'.cell? ⟨w.heap.size, 0, none⟩ = some (.int .u64 tb) ∧ w'.cell? ⟨w.heap.size, 1, none⟩ = some (.int .u8 tn)) (first | exact ⟨k0, k1, k2, k3, k4⟩ | go_keep) (first | (go_at_call 47; refine (HC.out _).mono ?_; rintro e w1 ⟨rfl, hb1⟩; have k0 := (hb1.cell (p := ⟨g, h * 3, none⟩) hgr).trans c0; have k1 := (hb1.cell (p := ⟨g, h * 3 + 1, none⟩) hgr).trans c1; have k2 := (hb1.cell (p := ⟨g, h * 3 + 2, none⟩) hgr).trans c2; have k3 := (hb1.cell (p := ⟨w.heap.size, 0, none⟩) hwr).trans t0; have k4 := (hb1.cell (p := ⟨w.heap.size, 1, none⟩) hwr).trans t1))
        all_goals
          go_wp2
          go_roundw
          case rel => exact ⟨h + 1, j, by go_num, rfl, by omega, hj, hjm, hbel.drew.trans (hb1.mono (by have := hbel.size; simp at this ⊢; omega))⟩
          case measure => simp [intOf]; omega
      · have hge : (0 : Int) ≤ cmpI (lkey (P h).b (P h).n) (lkey tb tn) := by
          have := HHI.out h (by omega) (by omega)
          unfold cmpI
          rw [if_neg (by omega)]
          split <;> omega
        generalize hcv : cmpI (lkey (P h).b (P h).n) (lkey tb tn) = cv at hge
        have HC : Hid (∀ wx, Calls Ybaz.prog 47 #[.agg #[.string (P h).a, .int .u64 (P h).b, .int .u8 (P h).n], .agg #[.int .u64 tb, .int .u8 tn]] wx fun e w' => e = .returned (.int .i64 cv) ∧ Below wx.heap.size wx w') := by
          intro wx
          have := search1_any (P h).a (P h).b (P h).n tb tn wx (HN.out h (by omega)).1 (HN.out h (by omega)).2 ht.1 ht.2
          rw [hcv] at this
          exact this
        clear hcv
        go_wp2_with fail
        go_region_held3 (fun w' => w'.cell? ⟨g, h * 3, none⟩ = some (.string (P h).a) ∧ w'.cell? ⟨g, h * 3 + 1, none⟩ = some (.int .u64 (P h).b) ∧ w'.cell? ⟨g, h * 3 + 2, none⟩ = some (.int .u8 (P h).n) ∧ w'.cell? ⟨w.heap.size, 0, none⟩ = some (.int .u64 tb) ∧ w'.cell? ⟨w.heap.size, 1, none⟩ = some (.int .u8 tn)) (first | exact ⟨k0, k1, k2, k3, k4⟩ | go_keep) (first | (go_at_call 47; refine (HC.out _).mono ?_; rintro e w1 ⟨rfl, hb1⟩; have k0 := (hb1.cell (p := ⟨g, h * 3, none⟩) hgr).trans c0; have k1 := (hb1.cell (p := ⟨g, h * 3 + 1, none⟩) hgr).trans c1; have k2 := (hb1.cell (p := ⟨g, h * 3 + 2, none⟩) hgr).trans c2; have k3 := (hb1.cell (p := ⟨w.heap.size, 0, none⟩) hwr).trans t0; have k4 := (hb1.cell (p := ⟨w.heap.size, 1, none⟩) hwr).trans t1))
        all_goals
          go_wp2
          go_roundw
          case rel => exact ⟨i, h, rfl, rfl, hi, by omega, by omega, hbel.drew.trans (hb1.mono (by have := hbel.size; simp at this ⊢; omega))⟩
          case measure => simp [intOf]; omega
    · obtain rfl : i = pos := by omega
      obtain rfl : i = j := by omega
      by_cases him : i < m
      · obtain ⟨c0, c1, c2⟩ := hRow i him
        have ih : (i : Int) < (m : Int) := by omega
        have hd : decide (i < m) = true := decide_eq_true him
        clear hRow
        cases found with
        | true =>
          have HC : Hid (∀ wx, Calls Ybaz.prog 47 #[.agg #[.string (P i).a, .int .u64 (P i).b, .int .u8 (P i).n], .agg #[.int .u64 tb, .int .u8 tn]] wx fun e w' => e = .returned (.int .i64 0) ∧ Below wx.heap.size wx w') := by
            intro wx
            have := search1_any (P i).a (P i).b (P i).n tb tn wx (HN.out i (by omega)).1 (HN.out i (by omega)).2 ht.1 ht.2
            rw [cmpI_eq (HF.out rfl).2] at this
            exact this
          go_wp2_with fail
          go_region_held3 (fun w' => w'.cell? ⟨g, i * 3, none⟩ = some (.string (P i).a) ∧ w'.cell? ⟨g, i * 3 + 1, none⟩ = some (.int .u64 (P i).b) ∧ w'.cell? ⟨g, i * 3 + 2, none⟩ = some (.int .u8 (P i).n) ∧ w'.cell? ⟨w.heap.size, 0, none⟩ = some (.int .u64 tb) ∧ w'.cell? ⟨w.heap.size, 1, none⟩ = some (.int .u8 tn)) (first | exact ⟨k0, k1, k2, k3, k4⟩ | go_keep) (first | (go_at_call 47; refine (HC.out _).mono ?_; rintro e w1 ⟨rfl, hb1⟩; have k0 := (hb1.cell (p := ⟨g, i * 3, none⟩) hgr).trans c0; have k1 := (hb1.cell (p := ⟨g, i * 3 + 1, none⟩) hgr).trans c1; have k2 := (hb1.cell (p := ⟨g, i * 3 + 2, none⟩) hgr).trans c2; have k3 := (hb1.cell (p := ⟨w.heap.size, 0, none⟩) hwr).trans t0; have k4 := (hb1.cell (p := ⟨w.heap.size, 1, none⟩) hwr).trans t1))
          all_goals
            go_wp2
            go_ret2
            exact ⟨rfl, ((Below.refl _ w).alloc (Nat.le_refl _) _).trans ((hbel.mono (by omega)).drew.trans (hb1.mono (by have := hbel.size; simp at this ⊢; omega)))⟩
        | false =>
          have HC : Hid (∀ wx, Calls Ybaz.prog 47 #[.agg #[.string (P i).a, .int .u64 (P i).b, .int .u8 (P i).n], .agg #[.int .u64 tb, .int .u8 tn]] wx fun e w' => e = .returned (.int .i64 1) ∧ Below wx.heap.size wx w') := by
            intro wx
            have := search1_any (P i).a (P i).b (P i).n tb tn wx (HN.out i (by omega)).1 (HN.out i (by omega)).2 ht.1 ht.2
            rw [cmpI_gt (HNF.out rfl him)] at this
            exact this
          go_wp2_with fail
          go_region_held3 (fun w' => w'.cell? ⟨g, i * 3, none⟩ = some (.string (P i).a) ∧ w'.cell? ⟨g, i * 3 + 1, none⟩ = some (.int .u64 (P i).b) ∧ w'.cell? ⟨g, i * 3 + 2, none⟩ = some (.int .u8 (P i).n) ∧ w'.cell? ⟨w.heap.size, 0, none⟩ = some (.int .u64 tb) ∧ w'.cell? ⟨w.heap.size, 1, none⟩ = some (.int .u8 tn)) (first | exact ⟨k0, k1, k2, k3, k4⟩ | go_keep) (first | (go_at_call 47; refine (HC.out _).mono ?_; rintro e w1 ⟨rfl, hb1⟩; have k0 := (hb1.cell (p := ⟨g, i * 3, none⟩) hgr).trans c0; have k1 := (hb1.cell (p := ⟨g, i * 3 + 1, none⟩) hgr).trans c1; have k2 := (hb1.cell (p := ⟨g, i * 3 + 2, none⟩) hgr).trans c2; have k3 := (hb1.cell (p := ⟨w.heap.size, 0, none⟩) hwr).trans t0; have k4 := (hb1.cell (p := ⟨w.heap.size, 1, none⟩) hwr).trans t1))
          all_goals
            go_wp2
            go_ret2
            exact ⟨rfl, ((Below.refl _ w).alloc (Nat.le_refl _) _).trans ((hbel.mono (by omega)).drew.trans (hb1.mono (by have := hbel.size; simp at this ⊢; omega)))⟩
      · have hfd : found = false := by
          cases found with
          | false => rfl
          | true => exact absurd (HF.out rfl).1 him
        subst hfd
        obtain rfl : i = m := by omega
        have hd : decide ((i : Int) < (i : Int)) = false := decide_eq_false (by omega)
        clear hRow
        go_wp2_with fail
        go_quiet (fail)
        go_wp2
        go_ret2
        exact ⟨rfl, ((Below.refl _ w).alloc (Nat.le_refl _) _).trans (below_drewN (hbel.mono (by omega)) _)⟩

set_option maxHeartbeats 1000000 in
theorem bsearch_none (ao : Option Addr) (c : Nat) (tb tn : Int) (w : World) :
    Calls Ybaz.prog 46 #[.slice ao 0 c, .agg #[.int .u64 tb, .int .u8 tn], .func (.func 47) #[] #[]] w fun e w' => e = .returned (.tuple #[.int .i64 0, .bool false]) ∧ Below w.heap.size w w' := by
  have hd : decide ((0 : Int) < (0 : Int)) = false := by decide
  go_enter Ybaz.func46, Ybaz.ntmps46
  go_wp2
  refine wp_loop_rounds 1 ?_
  rw [rounds_succ]
  go_wp2_with fail
  go_quiet (fail)
  go_wp2
  go_ret2
  exact ⟨rfl, below_drewN ((Below.refl _ w).alloc (Nat.le_refl _) _) _⟩

/-- What a search comes to: 'pos' entries lie below the label; 'found': the entry at pos bears its key. -/
structure Sought (P : Nat → Pr) (m : Nat) (tb tn : Int) (pos : Nat) (found : Bool) : Prop where
  le : pos ≤ m
  lo : ∀ j, j < pos → lkey (P j).b (P j).n < lkey tb tn
  hi : ∀ j, pos ≤ j → j < m → lkey tb tn ≤ lkey (P j).b (P j).n
  yes : found = true → pos < m ∧ lkey (P pos).b (P pos).n = lkey tb tn
  no : found = false → pos < m → lkey tb tn < lkey (P pos).b (P pos).n

/-- The ring's slice value leads to its row: nil or empty where there is no entry. -/
def Ring (w : World) (v : Value) (m : Nat) (P : Nat → Pr) : Prop :=
  (∃ ao c, m = 0 ∧ v = .slice ao 0 c) ∨ ∃ g c, 0 < m ∧ v = .slice (some ⟨g, 0, none⟩) m c ∧ g < w.heap.size ∧ Row w g m P

theorem Ring.later {w w' : World} {v : Value} {m : Nat} {P : Nat → Pr} (h : Ring w v m P) (hb : Below w.heap.size w w') : Ring w' v m P := by
  rcases h with ⟨ao, c, rfl, rfl⟩ | ⟨g, c, hm, rfl, hg, hr⟩
  · exact .inl ⟨ao, c, rfl, rfl⟩
  · exact .inr ⟨g, c, hm, rfl, by have := hb.size; omega, hr.later hb hg⟩

theorem bsearch (v : Value) (m pos : Nat) (P : Nat → Pr) (tb tn : Int) (found : Bool) (w : World) (hm : m ≤ 1000000) (hv : Ring w v m P) (hn : ∀ j, j < m → 0 ≤ (P j).n ∧ (P j).n ≤ 64) (ht : 0 ≤ tn ∧ tn ≤ 64) (hs : Sought P m tb tn pos found) :
    Calls Ybaz.prog 46 #[v, .agg #[.int .u64 tb, .int .u8 tn], .func (.func 47) #[] #[]] w fun e w' => e = .returned (.tuple #[.int .i64 pos, .bool found]) ∧ Below w.heap.size w w' := by
  rcases hv with ⟨ao, c, rfl, rfl⟩ | ⟨g, c, _, rfl, hg, hr⟩
  · obtain rfl : pos = 0 := by have := hs.le; omega
    have hf : found = false := by
      cases found with
      | false => rfl
      | true => have := (hs.yes rfl).1; omega
    subst hf
    exact bsearch_none ao c tb tn w
  · exact bsearch_any g m c pos P tb tn found w hm hg hr hn ht hs.le hs.lo hs.hi hs.yes hs.no

set_option maxHeartbeats 1000000 in
theorem searchLabel_any (v : Value) (m pos : Nat) (P : Nat → Pr) (tb tn : Int) (found : Bool) (w : World) (hm : m ≤ 1000000) (hv : Ring w v m P) (hn : ∀ j, j < m → 0 ≤ (P j).n ∧ (P j).n ≤ 64) (ht : 0 ≤ tn ∧ tn ≤ 64) (hs : Sought P m tb tn pos found) :
    Calls Ybaz.prog 32 #[v, .agg #[.int .u64 tb, .int .u8 tn]] w fun e w' => e = .returned (.tuple #[.int .i64 pos, .bool found]) ∧ Below w.heap.size w w' := by
  have HC : Hid (∀ wx, Below w.heap.size w wx → Calls Ybaz.prog 46 #[v, .agg #[.int .u64 tb, .int .u8 tn], .func (.func 47) #[] #[]] wx fun e w' => e = .returned (.tuple #[.int .i64 pos, .bool found]) ∧ Below wx.heap.size wx w') :=
    fun wx hb => bsearch v m pos P tb tn found wx hm (hv.later hb) hn ht hs
  clear hv hn hs
  go_enter Ybaz.func32, Ybaz.ntmps32
  go_wp2_with fail
  refine (HC.out _ ((Below.refl _ w).alloc (Nat.le_refl _) _)).mono ?_
  rintro e w1 ⟨rfl, hb⟩
  go_wp2
  go_ret2
  exact ⟨rfl, ((Below.refl _ w).alloc (Nat.le_refl _) _).trans (hb.mono (by simp))⟩

set_option maxHeartbeats 1000000 in
theorem search_any (rb : Nat) (v : Value) (m pos : Nat) (P : Nat → Pr) (tb tn : Int) (found : Bool) (w : World) (hm : m ≤ 1000000) (hv : Ring w v m P) (hn : ∀ j, j < m → 0 ≤ (P j).n ∧ (P j).n ≤ 64) (ht : 0 ≤ tn ∧ tn ≤ 64) (hs : Sought P m tb tn pos found)
    (hc : w.cell? ⟨rb, 0, none⟩ = some v) :
    Calls Ybaz.prog 23 #[.pointer (some ⟨rb, 0, none⟩), .agg #[.int .u64 tb, .int .u8 tn]] w fun e w' => e = .returned (.tuple #[.int .i64 pos, .bool found]) ∧ Below w.heap.size w w' := by
  have HC : Hid (∀ wx, Below w.heap.size w wx → Calls Ybaz.prog 32 #[v, .agg #[.int .u64 tb, .int .u8 tn]] wx fun e w' => e = .returned (.tuple #[.int .i64 pos, .bool found]) ∧ Below wx.heap.size wx w') :=
    fun wx hb => searchLabel_any v m pos P tb tn found wx hm (hv.later hb) hn ht hs
  have hrb : rb < w.heap.size := World.block_lt_of_cell? _ _ hc
  have a0 : ∀ o, (w.alloc o).cell? ⟨rb, 0, none⟩ = some v := fun o => by rw [World.cell?_alloc_past _ _ _ hrb]; exact hc
  clear hv hn hs
  go_enter Ybaz.func23, Ybaz.ntmps23
  go_wp2_with fail
  go_region_held3 (fun w' => w'.cell? ⟨rb, 0, none⟩ = some v ∧ w'.cell? ⟨w.heap.size, 0, none⟩ = some (.int .u64 tb) ∧ w'.cell? ⟨w.heap.size, 1, none⟩ = some (.int .u8 tn)) (first | exact ⟨k0, k1, k2⟩ | go_keep) (first | (go_at_call 32; refine (HC.out _ ?_).mono ?_; exact ((Below.refl _ w).alloc (Nat.le_refl _) _).drew; rintro e w1 ⟨rfl, hb1⟩; have k0 := (hb1.cell (p := ⟨rb, 0, none⟩) (by simp; omega)).trans (a0 _); have k1 := (hb1.cell (p := ⟨w.heap.size, 0, none⟩) (by simp)).trans (show _ = some (Value.int .u64 tb) by simp); have k2 := (hb1.cell (p := ⟨w.heap.size, 1, none⟩) (by simp)).trans (show _ = some (Value.int .u8 tn) by simp)))
  all_goals
    go_wp2
    go_ret2
    exact ⟨rfl, (((Below.refl _ w).alloc (Nat.le_refl _) _).drew).trans (hb1.mono (by simp))⟩
end Go.Proofs.YbulkclxkGreat.ring
