import Derived.Test.YbulkclxkGreatRows2
import Derived.Deep.DeepCutAuto
import Derived.BigQuiet
namespace Go.Proofs.YbulkclxkGreat.del
open Go.ChangeShapes Go.WideShapes Go.ChangeAt Go.RowKit
open lab ring maps sup put
set_option linter.unusedVariables false

theorem Row2.later {w w' : World} {g m : Nat} {M : List (Int × Int)} (h : Row2 w g m M) (hb : Below w.heap.size w w') (hg : g < w.heap.size) : Row2 w' g m M := fun j hj =>
  ⟨(hb.cell (p := ⟨g, j * 2, none⟩) hg).trans (h j hj).1, (hb.cell (p := ⟨g, j * 2 + 1, none⟩) hg).trans (h j hj).2⟩
theorem grown_below {w w' : World} (hb : Below w.heap.size w w') (row : Option Nat) : w.grownBy w' row := ⟨hb.os, hb.tape, hb.output, hb.size, fun k hk _ => hb.block k hk⟩
theorem nth2_get {M : List (Int × Int)} {k : Nat} (h : k < M.length) : M[k]? = some (nth2 M k) := by
  rw [nth2, List.getD_eq_getElem?_getD, List.getElem?_eq_getElem h]; rfl
theorem take2_succ {M : List (Int × Int)} {k : Nat} (h : k < M.length) : M.take (k + 1) = M.take k ++ [nth2 M k] := by
  rw [List.take_add_one, nth2_get h]; rfl
theorem split2 {M : List (Int × Int)} {k : Nat} (h : k < M.length) : M = M.take k ++ nth2 M k :: M.drop (k + 1) := by
  have e : M.drop k = nth2 M k :: M.drop (k + 1) := by
    rw [List.drop_eq_getElem_cons h]
    congr 1
    have := nth2_get h
    rw [List.getElem?_eq_getElem h] at this
    exact Option.some.inj this
  rw [← e, List.take_append_drop]

set_option maxRecDepth 100000 in
set_option maxHeartbeats 1000000 in
theorem index49 (g c pb : Nat) (M : List (Int × Int)) (q : Pr) (w : World) (hm : M.length ≤ 1000) (hg : g < w.heap.size) (hP : Row2 w g M.length M) (h1 : w.cell? ⟨pb, 1, none⟩ = some (.int .u64 q.b)) (h2 : w.cell? ⟨pb, 2, none⟩ = some (.int .u8 q.n)) :
    Calls Ybaz.prog 49 #[.slice (some ⟨g, 0, none⟩) M.length c, .func (.func 35) #[] #[.pointer (some ⟨pb, 0, none⟩)]] w fun e w' => ∃ r, e = .returned (.int .i64 r) ∧ Ind M (same (q.b, q.n)) r ∧ Below w.heap.size w w' := by
  have hpb : pb < w.heap.size := World.block_lt_of_cell? _ _ h1
  have HP : Hid (Row2 w g M.length M) := hP
  clear hP
  go_enter Ybaz.func49, Ybaz.ntmps49
  go_wp2
  go_loopw [5, 8] (fun _ i wr => ∃ k : Nat, k ≤ M.length ∧ i = .int .i64 k ∧ Hid (∀ x ∈ M.take k, same (q.b, q.n) x = false) ∧ Below w.heap.size w wr) (fun _ i _ => M.length - (intOf i).toNat)
  case atStart => exact ⟨0, Nat.zero_le _, rfl, fun x hx => by simp at hx, Below.refl _ _⟩
  case round =>
    obtain ⟨k, hk, rfl, hal, hB⟩ := hrel
    by_cases hkr : k < M.length
    · obtain ⟨a0, a1⟩ := (HP.out.later hB hg) k hkr
      have i1 : (k : Int) < (M.length : Int) := by omega
      have b1 := (hB.cell (p := ⟨pb, 1, none⟩) hpb).trans h1
      have b2 := (hB.cell (p := ⟨pb, 2, none⟩) hpb).trans h2
      have HC := unindex1 (nth2 M k) pb q wr b1 b2
      cases hs : same (q.b, q.n) (nth2 M k)
      · rw [hs] at HC
        go_wp2_with (go_at_call 35; refine HC.mono ?_; rintro e w' ⟨rfl, hb⟩)
        refine ⟨⟨k + 1, by omega, by go_num, fun x hx => ?_, hB.trans (hb.mono hB.size)⟩, by simp [intOf]; omega⟩
        rw [take2_succ hkr, List.mem_append] at hx
        rcases hx with hx | hx
        · exact hal.out x hx
        · rw [List.mem_singleton.1 hx]; exact hs
      · rw [hs] at HC
        go_wp2_with (go_at_call 35; refine HC.mono ?_; rintro e w' ⟨rfl, hb⟩)
        go_ret
        exact ⟨_, rfl, .inr ⟨M.take k, nth2 M k, M.drop (k + 1), by rw [List.length_take, Nat.min_eq_left hk], split2 hkr, hal.out, hs⟩, hB.trans (hb.mono hB.size)⟩
    · go_wp2
      go_ret
      refine ⟨_, rfl, .inl ⟨rfl, fun m hm' => hal.out m ?_⟩, hB⟩
      rwa [List.take_of_length_le (by omega)]

set_option maxRecDepth 100000 in
theorem index49_nil (ao : Option Addr) (c pb : Nat) (w : World) :
    Calls Ybaz.prog 49 #[.slice ao 0 c, .func (.func 35) #[] #[.pointer (some ⟨pb, 0, none⟩)]] w fun e w' => e = .returned (.int .i64 (-1)) ∧ Below w.heap.size w w' := by
  go_enter Ybaz.func49, Ybaz.ntmps49
  go_wp2
  refine wp_loop_rounds 1 ?_
  rw [rounds_succ]
  go_wp2
  go_ret
  exact ⟨rfl, Below.refl _ _⟩

/-- What a row has become while the entries of which s holds are struck: a of the first b stand, the rest is as it was. -/
structure Struck {α : Type} (M Q : List α) (s : α → Bool) (a b : Nat) : Prop where
  len : Q.length = M.length
  lt : a < b
  le : b ≤ M.length
  front : Q.take a = (M.take b).filter (fun m => !s m)
  back : Q.drop b = M.drop b
theorem Struck.start {α : Type} {A C : List α} {m : α} {s : α → Bool} (hA : ∀ x ∈ A, s x = false) (hm : s m = true) : Struck (A ++ m :: C) (A ++ m :: C) s A.length (A.length + 1) where
  len := rfl
  lt := by omega
  le := by simp
  front := by
    rw [List.take_left, show (A ++ m :: C) = (A ++ [m]) ++ C by simp, List.take_left' (by simp), List.filter_append, List.filter_eq_self.2 (fun x hx => by simp [hA x hx])]
    simp [hm]
  back := rfl
theorem Struck.at {α : Type} {M Q : List α} {s : α → Bool} {a b : Nat} (h : Struck M Q s a b) {j : Nat} (hj : b ≤ j) : Q[j]? = M[j]? := by
  have := congrArg (fun l => l[j - b]?) h.back
  simpa [List.getElem?_drop, Nat.add_sub_cancel' hj] using this
theorem Struck.skip {α : Type} {M Q : List α} {s : α → Bool} {a b : Nat} {m : α} (h : Struck M Q s a b) (hm : M[b]? = some m) (hs : s m = true) : Struck M Q s a (b + 1) where
  len := h.len
  lt := by have := h.lt; omega
  le := (List.getElem?_eq_some_iff.1 hm).1
  front := by rw [h.front, List.take_add_one, hm, List.filter_append]; simp [hs]
  back := by rw [← List.drop_drop, h.back, List.drop_drop]
theorem Struck.keep {α : Type} {M Q : List α} {s : α → Bool} {a b : Nat} {m : α} (h : Struck M Q s a b) (hm : M[b]? = some m) (hs : s m = false) : Struck M (Q.set a m) s (a + 1) (b + 1) where
  len := by simpa using h.len
  lt := by have := h.lt; omega
  le := (List.getElem?_eq_some_iff.1 hm).1
  front := by
    have hb := (List.getElem?_eq_some_iff.1 hm).1
    have hlt := h.lt
    have hlen := h.len
    rw [List.take_add_one (l := M), hm, List.filter_append, ← h.front, List.take_add_one, List.take_set, List.set_eq_of_length_le (by simp; omega), List.getElem?_set_self (by omega)]
    simp [hs]
  back := by rw [List.drop_set_of_lt (by have := h.lt; omega), ← List.drop_drop, h.back, List.drop_drop]
theorem Struck.done {α : Type} {M Q : List α} {s : α → Bool} {a : Nat} (h : Struck M Q s a M.length) : Q.take a = M.filter (fun m => !s m) := by
  have := h.front
  rwa [List.take_of_length_le (Nat.le_refl _)] at this

theorem zero28 (w : World) : (zeroValue 28).run Ybaz.prog w = .ok (.agg #[.int .u64 0, .int .u8 0]) w := by kernel_rfl

set_option maxRecDepth 100000 in
set_option maxHeartbeats 1000000 in
theorem delete34_some (B g c pb : Nat) (M : List (Int × Int)) (q : Pr) (w : World) (hm : M.length ≤ 1000) (hown : w.ownsRow B 28 2 (.slice (some ⟨g, 0, none⟩) M.length c) M.length (flat2 M)) (h1 : w.cell? ⟨pb, 1, none⟩ = some (.int .u64 q.b)) (h2 : w.cell? ⟨pb, 2, none⟩ = some (.int .u8 q.n)) (hpg : pb ≠ g) (hpos : 0 < M.length) :
    Calls Ybaz.prog 34 #[.slice (some ⟨g, 0, none⟩) M.length c, .func (.func 35) #[] #[.pointer (some ⟨pb, 0, none⟩)]] w fun e w' => ∃ n, e = .returned (.slice (some ⟨g, 0, none⟩) n c) ∧ n = (M.filter (fun m => !same (q.b, q.n) m)).length ∧ w'.ownsRow B 28 2 (.slice (some ⟨g, 0, none⟩) n c) n (flat2 (M.filter (fun m => !same (q.b, q.n) m))) ∧ w.grownBy w' (some g) := by
  have hg : g < w.heap.size := (hown.lt g rfl).2
  have hpb : pb < w.heap.size := World.block_lt_of_cell? _ _ h1
  have HC := index49 g c pb M q w hm hg (row2_of hown) h1 h2
  have hcc : M.length ≤ c ∧ c ≤ maxLen := by
    obtain ⟨_, ⟨h', _⟩ | ⟨g', c0, cur, h', _, _, hnc, hcm, _⟩⟩ := hown
    · simp at h'
    · simp only [Value.slice.injEq, Option.some.injEq, Addr.mk.injEq, and_true, true_and] at h'
      obtain ⟨rfl, rfl⟩ := h'
      exact ⟨hnc, hcm⟩
  have HO : Hid (w.ownsRow B 28 2 (.slice (some ⟨g, 0, none⟩) M.length c) M.length (flat2 M)) := hown
  clear hown
  go_enter Ybaz.func34, Ybaz.ntmps34
  go_wp2_with (go_at_call 49; refine HC.mono ?_; rintro e w1 ⟨r, rfl, hr, hb1⟩)
  · rename_i hcond
    have hall : M.filter (fun m => !same (q.b, q.n) m) = M := by
      rcases hr with ⟨_, hr⟩ | ⟨A, m, C, rfl, _⟩
      · exact List.filter_eq_self.2 (fun x hx => by simp [hr x hx])
      · simp at hcond
    go_ret
    refine ⟨M.length, rfl, by rw [hall], ?_, ⟨hb1.os, hb1.tape, hb1.output, hb1.size, fun k hk _ => hb1.block k hk⟩⟩
    rw [hall]
    exact ownsRow_block HO.out (fun g' hg' => hb1.block g' (HO.out.lt g' hg').2)
  · have hcond : (r == -1) = false := by assumption
    obtain ⟨A, m, C, rfl, hM, hA, hms⟩ : ∃ A m C, r = ((A : List (Int × Int)).length : Int) ∧ M = A ++ m :: C ∧ (∀ x ∈ A, same (q.b, q.n) x = false) ∧ same (q.b, q.n) m = true := by
      rcases hr with ⟨rfl, _⟩ | h
      · exact absurd hcond (by decide)
      · exact h
    have HS0 : Struck M M (same (q.b, q.n)) A.length (A.length + 1) := by rw [hM]; exact Struck.start hA hms
    have hAl := HS0.le
    clear hA hM hms hcond
    generalize A.length = a0 at *
    have hwr : wrap64 ((a0 : Int) + 1) = (a0 : Int) + 1 := by rw [wrap64]; omega
    have hz1 : ((a0 : Int) == -1) = false := by assumption
    rw [hwr, hz1]
    clear hwr hz1 hr
    go_loopw [5, 6, 7] (fun i j _ wr => ∃ (a b : Nat) (Q : List (Int × Int)), i = .int .i64 a ∧ j = .int .i64 b ∧ Hid (Struck M Q (same (q.b, q.n)) a b) ∧ wr.ownsRow B 28 2 (.slice (some ⟨g, 0, none⟩) M.length c) M.length (flat2 Q) ∧ w.grownBy wr (some g)) (fun _ j _ _ => M.length - (intOf j).toNat)
    case atStart =>
      refine ⟨a0, a0 + 1, M, rfl, by simp, HS0, ?_, ⟨hb1.os, hb1.tape, hb1.output, hb1.size, fun k hk _ => hb1.block k hk⟩⟩
      exact ownsRow_block HO.out (fun g' hg' => hb1.block g' (HO.out.lt g' hg').2)
    case round =>
      obtain ⟨a, b, Q, rfl, rfl, hS, hown, hgr⟩ := hrel
      have hlen := hS.out.len
      have hab := hS.out.lt
      have hbl := hS.out.le
      have hszr := hgr.size
      by_cases hbr : b < M.length
      · have i1 : (b : Int) < (M.length : Int) := by omega
        have i2 : (a : Int) < (M.length : Int) := by omega
        have hrow : Row2 wr g Q.length Q := by
          have h := hown
          rw [← hlen] at h
          exact row2_of h
        obtain ⟨c0, c1⟩ := hrow b (by omega)
        have hMb : M[b]? = some (nth2 Q b) := by rw [← hS.out.at (Nat.le_refl b)]; exact nth2_get (by omega)
        clear hrow
        generalize nth2 Q b = m at c0 c1 hMb
        have b1 : wr.cell? ⟨pb, 1, none⟩ = some (.int .u64 q.b) := hgr.cell h1 (by simp; exact hpg)
        have b2 : wr.cell? ⟨pb, 2, none⟩ = some (.int .u8 q.n) := hgr.cell h2 (by simp; exact hpg)
        have hgw : g < wr.heap.size := by omega
        have HU : ∀ o, Calls Ybaz.prog 35 #[.agg #[.int .u64 m.1, .int .u8 m.2], .pointer (some ⟨pb, 0, none⟩)] (wr.alloc o) fun e w' => e = .returned (.bool (same (q.b, q.n) m)) ∧ Below (wr.alloc o).heap.size (wr.alloc o) w' := fun o =>
          unindex1 m pb q _ (by rw [World.cell?_alloc_past _ _ _ (by show pb < _; omega)]; exact b1) (by rw [World.cell?_alloc_past _ _ _ (by show pb < _; omega)]; exact b2)
        have hbx : ∀ j, (wr.alloc (.cells #[.int .u64 m.1, .int .u8 m.2] 28)).cell? ⟨wr.heap.size, j, none⟩ = (#[.int .u64 m.1, .int .u8 m.2] : Array Value)[j]? := fun j => by rw [World.cell?_alloc_at _ _ _ _ rfl]
        have HOr : Hid (wr.ownsRow B 28 2 (.slice (some ⟨g, 0, none⟩) M.length c) M.length (flat2 Q)) := hown
        clear hown
        cases hs : same (q.b, q.n) m
        · rw [hs] at HU
          have HU' : Hid (∀ o, Calls Ybaz.prog 35 #[.agg #[.int .u64 m.1, .int .u8 m.2], .pointer (some ⟨pb, 0, none⟩)] (wr.alloc o) fun e w' => e = .returned (.bool false) ∧ Below (wr.alloc o).heap.size (wr.alloc o) w') := HU
          clear HU
          go_wp2_with (first
            | (go_at_call 35; refine (HU'.out _).mono ?_; rintro e w2 ⟨rfl, hb2⟩
               have x0 : w2.cell? ⟨wr.heap.size, 0, none⟩ = some (.int .u64 m.1) := (hb2.cell (p := ⟨wr.heap.size, 0, none⟩) (by simp)).trans (hbx 0)
               have x1 : w2.cell? ⟨wr.heap.size, 1, none⟩ = some (.int .u8 m.2) := (hb2.cell (p := ⟨wr.heap.size, 1, none⟩) (by simp)).trans (hbx 1)
               have hown2 : w2.ownsRow B 28 2 (.slice (some ⟨g, 0, none⟩) M.length c) M.length (flat2 Q) := ownsRow_block (HOr.out.alloc _) (fun g' hg' => hb2.block g' ((HOr.out.alloc _).lt g' hg').2)
               have d0 : w2.cell? ⟨g, a * 2, none⟩ = some (.int .u64 (nth2 Q a).1) := (hown2.cellAt (a * 2) (by omega)).trans (flat2_at Q a (by omega)).1
               have d1 : w2.cell? ⟨g, a * 2 + 1, none⟩ = some (.int .u8 (nth2 Q a).2) := (hown2.cellAt (a * 2 + 1) (by omega)).trans (flat2_at Q a (by omega)).2
               have f0 : w2.frozen? ⟨g, a * 2, none⟩ = false := hown2.frozenAt _
               have f1 : w2.frozen? ⟨g, a * 2 + 1, none⟩ = false := hown2.frozenAt _))
          go_roundw
          case rel => exact ⟨a + 1, b + 1, Q.set a m, by go_num, by go_num, hS.out.keep hMb hs, (store2 hown2 a m).1, grownBy_trans (grownBy_trans (grownBy_trans hgr (World.grownBy_alloc _ _ _)) (grown_below hb2 _)) (store2 hown2 a m).2⟩
          case measure => simp [intOf]; omega
        · rw [hs] at HU
          have HU' : Hid (∀ o, Calls Ybaz.prog 35 #[.agg #[.int .u64 m.1, .int .u8 m.2], .pointer (some ⟨pb, 0, none⟩)] (wr.alloc o) fun e w' => e = .returned (.bool true) ∧ Below (wr.alloc o).heap.size (wr.alloc o) w') := HU
          clear HU
          go_wp2_with (first
            | (go_at_call 35; refine (HU'.out _).mono ?_; rintro e w2 ⟨rfl, hb2⟩
               have hown2 : w2.ownsRow B 28 2 (.slice (some ⟨g, 0, none⟩) M.length c) M.length (flat2 Q) := ownsRow_block (HOr.out.alloc _) (fun g' hg' => hb2.block g' ((HOr.out.alloc _).lt g' hg').2)))
          go_roundw
          case rel => exact ⟨a, b + 1, Q, by go_num, by go_num, hS.out.skip hMb hs, hown2, grownBy_trans (grownBy_trans hgr (World.grownBy_alloc _ _ _)) (grown_below hb2 _)⟩
          case measure => simp [intOf]; omega
      · obtain rfl : b = M.length := by omega
        obtain ⟨w', hrun, hown', hg'⟩ := clear_row (t := 83) (k := 2) (.agg #[.int .u64 0, .int .u8 0]) Ybaz.underlying83 zero28 rfl (by omega) (by simp [Value.cells, Value.oneCell']) hown hab
        have hdone := hS.out.done
        have hfl : (M.filter (fun m => !same (q.b, q.n) m)).length = a := by rw [← hdone, List.length_take]; omega
        rw [flat2_take, hdone] at hown'
        have hi3 : (a : Int) ≤ (M.length : Int) := by omega
        clear hown hS hdone
        go_wp2
        go_ret
        exact ⟨a, rfl, hfl.symm, hown', grownBy_trans hgr hg'⟩

theorem delete34 (B pb : Nat) (v : Value) (M : List (Int × Int)) (q : Pr) (w : World) (hm : M.length ≤ 1000) (hown : w.ownsRow B 28 2 v M.length (flat2 M)) (h1 : w.cell? ⟨pb, 1, none⟩ = some (.int .u64 q.b)) (h2 : w.cell? ⟨pb, 2, none⟩ = some (.int .u8 q.n)) (hpg : v.ownBlock ≠ some pb) (hpos : 0 < M.length) :
    Calls Ybaz.prog 34 #[v, .func (.func 35) #[] #[.pointer (some ⟨pb, 0, none⟩)]] w fun e w' => ∃ g n c, e = .returned (.slice (some ⟨g, 0, none⟩) n c) ∧ n = (M.filter (fun m => !same (q.b, q.n) m)).length ∧ w'.ownsRow B 28 2 (.slice (some ⟨g, 0, none⟩) n c) n (flat2 (M.filter (fun m => !same (q.b, q.n) m))) ∧ v.ownBlock = some g ∧ w.grownBy w' (some g) := by
  obtain ⟨g, c, rfl, _, _⟩ := hown.form hpos
  refine (delete34_some B g c pb M q w hm hown h1 h2 (fun e => hpg (by rw [e]; rfl)) hpos).mono ?_
  rintro e w' ⟨n, rfl, hn, ho, hg⟩
  exact ⟨g, n, c, rfl, hn, ho, rfl, hg⟩
end Go.Proofs.YbulkclxkGreat.del
