import Derived.Test.YbulkclxkGreatDel
import Derived.Test.YbulkclxkGreatMend
namespace Go.Proofs.YbulkclxkGreat.del
open Go.ChangeShapes Go.WideShapes Go.ChangeAt Go.RowKit
open lab ring maps sup put read
set_option linter.unusedVariables false

def emp (p : Pr) : Bool := p.a.toList.isEmpty
theorem nth_get {M : List Pr} {k : Nat} (h : k < M.length) : M[k]? = some (nth M k) := by
  rw [nth, List.getD_eq_getElem?_getD, List.getElem?_eq_getElem h]; rfl
theorem take3_succ {M : List Pr} {k : Nat} (h : k < M.length) : M.take (k + 1) = M.take k ++ [nth M k] := by
  rw [List.take_add_one, nth_get h]; rfl
theorem split3 {M : List Pr} {k : Nat} (h : k < M.length) : M = M.take k ++ nth M k :: M.drop (k + 1) := by
  have e : M.drop k = nth M k :: M.drop (k + 1) := by
    rw [List.drop_eq_getElem_cons h]
    congr 1
    have := nth_get h
    rw [List.getElem?_eq_getElem h] at this
    exact Option.some.inj this
  rw [← e, List.take_append_drop]

set_option maxRecDepth 100000 in
set_option maxHeartbeats 1000000 in
theorem index54 (g c : Nat) (M : List Pr) (w : World) (hm : M.length ≤ 1000) (hg : g < w.heap.size) (hP : Row w g M.length (nth M)) :
    Calls Ybaz.prog 54 #[.slice (some ⟨g, 0, none⟩) M.length c, .func (.func 33) #[] #[]] w fun e w' => ∃ r, e = .returned (.int .i64 r) ∧ Ind M emp r ∧ Below w.heap.size w w' := by
  have HP : Hid (Row w g M.length (nth M)) := hP
  clear hP
  go_enter Ybaz.func54, Ybaz.ntmps54
  go_wp2
  go_loopw [5, 8] (fun _ i wr => ∃ k : Nat, k ≤ M.length ∧ i = .int .i64 k ∧ Hid (∀ x ∈ M.take k, emp x = false) ∧ Below w.heap.size w wr) (fun _ i _ => M.length - (intOf i).toNat)
  case atStart => exact ⟨0, Nat.zero_le _, rfl, fun x hx => by simp at hx, Below.refl _ _⟩
  case round =>
    obtain ⟨k, hk, rfl, hal, hB⟩ := hrel
    by_cases hkr : k < M.length
    · obtain ⟨a0, a1, a2⟩ := (HP.out.later hB hg) k hkr
      have i1 : (k : Int) < (M.length : Int) := by omega
      have HC := peerNone (nth M k).a (nth M k).b (nth M k).n wr
      cases hs : emp (nth M k)
      · rw [show (nth M k).a.toList.isEmpty = false from hs] at HC
        go_wp2_with (go_at_call 33; refine HC.mono ?_; rintro e w' ⟨rfl, rfl⟩)
        refine ⟨⟨k + 1, by omega, by go_num, fun x hx => ?_, hB.alloc hB.size _⟩, by simp [intOf]; omega⟩
        rw [take3_succ hkr, List.mem_append] at hx
        rcases hx with hx | hx
        · exact hal.out x hx
        · rw [List.mem_singleton.1 hx]; exact hs
      · rw [show (nth M k).a.toList.isEmpty = true from hs] at HC
        go_wp2_with (go_at_call 33; refine HC.mono ?_; rintro e w' ⟨rfl, rfl⟩)
        go_ret
        exact ⟨_, rfl, .inr ⟨M.take k, nth M k, M.drop (k + 1), by rw [List.length_take, Nat.min_eq_left hk], split3 hkr, hal.out, hs⟩, hB.alloc hB.size _⟩
    · go_wp2
      go_ret
      refine ⟨_, rfl, .inl ⟨rfl, fun m hm' => hal.out m ?_⟩, hB⟩
      rwa [List.take_of_length_le (by omega)]

set_option maxRecDepth 100000 in
theorem index54_nil (ao : Option Addr) (c : Nat) (w : World) :
    Calls Ybaz.prog 54 #[.slice ao 0 c, .func (.func 33) #[] #[]] w fun e w' => e = .returned (.int .i64 (-1)) ∧ Below w.heap.size w w' := by
  go_enter Ybaz.func54, Ybaz.ntmps54
  go_wp2
  refine wp_loop_rounds 1 ?_
  rw [rounds_succ]
  go_wp2
  go_ret
  exact ⟨rfl, Below.refl _ _⟩

theorem zero31 (w : World) : (zeroValue 31).run Ybaz.prog w = .ok (.agg #[.string ByteArray.empty, .int .u64 0, .int .u8 0]) w := by kernel_rfl

set_option maxRecDepth 100000 in
set_option maxHeartbeats 1000000 in
theorem delete41_some (B g c : Nat) (M : List Pr) (w : World) (hm : M.length ≤ 1000) (hown : w.ownsRow B 31 3 (.slice (some ⟨g, 0, none⟩) M.length c) M.length (flat M)) :
    Calls Ybaz.prog 41 #[.slice (some ⟨g, 0, none⟩) M.length c, .func (.func 33) #[] #[]] w fun e w' => ∃ n, e = .returned (.slice (some ⟨g, 0, none⟩) n c) ∧ n = (M.filter (fun m => !emp m)).length ∧ w'.ownsRow B 31 3 (.slice (some ⟨g, 0, none⟩) n c) n (flat (M.filter (fun m => !emp m))) ∧ w.grownBy w' (some g) := by
  have hg : g < w.heap.size := (hown.lt g rfl).2
  have HC := index54 g c M w hm hg (row_of hown)
  have hcc : M.length ≤ c ∧ c ≤ maxLen := by
    obtain ⟨_, ⟨h', _⟩ | ⟨g', c0, cur, h', _, _, hnc, hcm, _⟩⟩ := hown
    · simp at h'
    · simp only [Value.slice.injEq, Option.some.injEq, Addr.mk.injEq, and_true, true_and] at h'
      obtain ⟨rfl, rfl⟩ := h'
      exact ⟨hnc, hcm⟩
  have HO : Hid (w.ownsRow B 31 3 (.slice (some ⟨g, 0, none⟩) M.length c) M.length (flat M)) := hown
  clear hown
  go_enter Ybaz.func41, Ybaz.ntmps41
  go_wp2_with (go_at_call 54; refine HC.mono ?_; rintro e w1 ⟨r, rfl, hr, hb1⟩)
  · rename_i hcond
    have hall : M.filter (fun m => !emp m) = M := by
      rcases hr with ⟨_, hr⟩ | ⟨A, m, C, rfl, _⟩
      · exact List.filter_eq_self.2 (fun x hx => by simp [hr x hx])
      · simp at hcond
    go_ret
    refine ⟨M.length, rfl, by rw [hall], ?_, ⟨hb1.os, hb1.tape, hb1.output, hb1.size, fun k hk _ => hb1.block k hk⟩⟩
    rw [hall]
    exact ownsRow_block HO.out (fun g' hg' => hb1.block g' (HO.out.lt g' hg').2)
  · have hcond : (r == -1) = false := by assumption
    obtain ⟨A, m, C, rfl, hM, hA, hms⟩ : ∃ A m C, r = ((A : List Pr).length : Int) ∧ M = A ++ m :: C ∧ (∀ x ∈ A, emp x = false) ∧ emp m = true := by
      rcases hr with ⟨rfl, _⟩ | h
      · exact absurd hcond (by decide)
      · exact h
    have HS0 : Struck M M emp A.length (A.length + 1) := by rw [hM]; exact Struck.start hA hms
    have hAl := HS0.le
    clear hA hM hms hcond
    generalize A.length = a0 at *
    have hwr : wrap64 ((a0 : Int) + 1) = (a0 : Int) + 1 := by rw [wrap64]; omega
    have hz1 : ((a0 : Int) == -1) = false := by assumption
    rw [hwr, hz1]
    clear hwr hz1 hr
    go_loopw [5, 6, 7] (fun i j _ wr => ∃ (a b : Nat) (Q : List Pr), i = .int .i64 a ∧ j = .int .i64 b ∧ Hid (Struck M Q emp a b) ∧ wr.ownsRow B 31 3 (.slice (some ⟨g, 0, none⟩) M.length c) M.length (flat Q) ∧ w.grownBy wr (some g)) (fun _ j _ _ => M.length - (intOf j).toNat)
    case atStart =>
      refine ⟨a0, a0 + 1, M, rfl, by simp, HS0, ?_, ⟨hb1.os, hb1.tape, hb1.output, hb1.size, fun k hk _ => hb1.block k hk⟩⟩
      exact ownsRow_block HO.out (fun g' hg' => hb1.block g' (HO.out.lt g' hg').2)
    case round =>
      obtain ⟨a, b, Q, rfl, rfl, hS, hown, hgr⟩ := hrel
      have hlen := hS.out.len
      have hab := hS.out.lt
      have hbl := hS.out.le
      have hszr := hgr.size
      by_cases hbr : b < M.length
      · have i1 : (b : Int) < (M.length : Int) := by omega
        have i2 : (a : Int) < (M.length : Int) := by omega
        have hrow : Row wr g Q.length (nth Q) := by
          have h := hown
          rw [← hlen] at h
          exact row_of h
        obtain ⟨c0, c1, c2⟩ := hrow b (by omega)
        have hMb : M[b]? = some (nth Q b) := by rw [← hS.out.at (Nat.le_refl b)]; exact nth_get (by omega)
        clear hrow
        generalize nth Q b = m at c0 c1 c2 hMb
        have hgw : g < wr.heap.size := by omega
        have HU : ∀ o, Calls Ybaz.prog 33 #[.agg #[.string m.a, .int .u64 m.b, .int .u8 m.n]] (wr.alloc o) fun e w' => e = .returned (.bool m.a.toList.isEmpty) ∧ Below (wr.alloc o).heap.size (wr.alloc o) w' := fun o =>
          (peerNone m.a m.b m.n _).mono (by rintro e w' ⟨rfl, rfl⟩; exact ⟨rfl, (Below.refl _ _).alloc (Nat.le_refl _) _⟩)
        have hbx : ∀ j, (wr.alloc (.cells #[.string m.a, .int .u64 m.b, .int .u8 m.n] 31)).cell? ⟨wr.heap.size, j, none⟩ = (#[.string m.a, .int .u64 m.b, .int .u8 m.n] : Array Value)[j]? := fun j => by rw [World.cell?_alloc_at _ _ _ _ rfl]
        have HOr : Hid (wr.ownsRow B 31 3 (.slice (some ⟨g, 0, none⟩) M.length c) M.length (flat Q)) := hown
        clear hown
        cases hs : emp m
        · rw [show m.a.toList.isEmpty = false from hs] at HU
          have HU' : Hid (∀ o, Calls Ybaz.prog 33 #[.agg #[.string m.a, .int .u64 m.b, .int .u8 m.n]] (wr.alloc o) fun e w' => e = .returned (.bool false) ∧ Below (wr.alloc o).heap.size (wr.alloc o) w') := HU
          clear HU
          go_wp2_with (first
            | (go_at_call 33; refine (HU'.out _).mono ?_; rintro e w2 ⟨rfl, hb2⟩
               have x0 : w2.cell? ⟨wr.heap.size, 0, none⟩ = some (.string m.a) := (hb2.cell (p := ⟨wr.heap.size, 0, none⟩) (by simp)).trans (hbx 0)
               have x1 : w2.cell? ⟨wr.heap.size, 1, none⟩ = some (.int .u64 m.b) := (hb2.cell (p := ⟨wr.heap.size, 1, none⟩) (by simp)).trans (hbx 1)
               have x2 : w2.cell? ⟨wr.heap.size, 2, none⟩ = some (.int .u8 m.n) := (hb2.cell (p := ⟨wr.heap.size, 2, none⟩) (by simp)).trans (hbx 2)
               have hown2 : w2.ownsRow B 31 3 (.slice (some ⟨g, 0, none⟩) M.length c) M.length (flat Q) := ownsRow_block (HOr.out.alloc _) (fun g' hg' => hb2.block g' ((HOr.out.alloc _).lt g' hg').2)
               have d0 : w2.cell? ⟨g, a * 3, none⟩ = some (.string (nth Q a).a) := (hown2.cellAt (a * 3) (by omega)).trans (flat_at Q a (by omega)).1
               have d1 : w2.cell? ⟨g, a * 3 + 1, none⟩ = some (.int .u64 (nth Q a).b) := (hown2.cellAt (a * 3 + 1) (by omega)).trans (flat_at Q a (by omega)).2.1
               have d2 : w2.cell? ⟨g, a * 3 + 2, none⟩ = some (.int .u8 (nth Q a).n) := (hown2.cellAt (a * 3 + 2) (by omega)).trans (flat_at Q a (by omega)).2.2
               have f0 : w2.frozen? ⟨g, a * 3, none⟩ = false := hown2.frozenAt _
               have f1 : w2.frozen? ⟨g, a * 3 + 1, none⟩ = false := hown2.frozenAt _
               have f2 : w2.frozen? ⟨g, a * 3 + 2, none⟩ = false := hown2.frozenAt _))
          go_roundw
          case rel => exact ⟨a + 1, b + 1, Q.set a m, by go_num, by go_num, hS.out.keep hMb hs, (store3 hown2 a m).1, grownBy_trans (grownBy_trans (grownBy_trans hgr (World.grownBy_alloc _ _ _)) (grown_below hb2 _)) (store3 hown2 a m).2⟩
          case measure => simp [intOf]; omega
        · rw [show m.a.toList.isEmpty = true from hs] at HU
          have HU' : Hid (∀ o, Calls Ybaz.prog 33 #[.agg #[.string m.a, .int .u64 m.b, .int .u8 m.n]] (wr.alloc o) fun e w' => e = .returned (.bool true) ∧ Below (wr.alloc o).heap.size (wr.alloc o) w') := HU
          clear HU
          go_wp2_with (first
            | (go_at_call 33; refine (HU'.out _).mono ?_; rintro e w2 ⟨rfl, hb2⟩
               have hown2 : w2.ownsRow B 31 3 (.slice (some ⟨g, 0, none⟩) M.length c) M.length (flat Q) := ownsRow_block (HOr.out.alloc _) (fun g' hg' => hb2.block g' ((HOr.out.alloc _).lt g' hg').2)))
          go_roundw
          case rel => exact ⟨a, b + 1, Q, by go_num, by go_num, hS.out.skip hMb hs, hown2, grownBy_trans (grownBy_trans hgr (World.grownBy_alloc _ _ _)) (grown_below hb2 _)⟩
          case measure => simp [intOf]; omega
      · obtain rfl : b = M.length := by omega
        obtain ⟨w', hrun, hown', hg'⟩ := clear_row (t := 32) (k := 3) (.agg #[.string ByteArray.empty, .int .u64 0, .int .u8 0]) Ybaz.underlying32 zero31 rfl (by omega) (by simp [Value.cells, Value.oneCell']) hown hab
        have hdone := hS.out.done
        have hfl : (M.filter (fun m => !emp m)).length = a := by rw [← hdone, List.length_take]; omega
        rw [flat_take, hdone] at hown'
        have hi3 : (a : Int) ≤ (M.length : Int) := by omega
        clear hown hS hdone
        go_wp2
        go_ret
        exact ⟨a, rfl, hfl.symm, hown', grownBy_trans hgr hg'⟩

set_option maxRecDepth 100000 in
theorem delete41_nil (w : World) :
    Calls Ybaz.prog 41 #[.slice none 0 0, .func (.func 33) #[] #[]] w fun e w' => e = .returned (.slice none 0 0) ∧ Below w.heap.size w w' := by
  have HC := index54_nil none 0 w
  go_enter Ybaz.func41, Ybaz.ntmps41
  go_wp2_with (go_at_call 54; refine HC.mono ?_; rintro e w1 ⟨rfl, hb1⟩)
  go_ret
  exact ⟨rfl, hb1⟩

theorem delete41 (B : Nat) (v : Value) (M : List Pr) (w : World) (hm : M.length ≤ 1000) (hown : w.ownsRow B 31 3 v M.length (flat M)) :
    Calls Ybaz.prog 41 #[v, .func (.func 33) #[] #[]] w fun e w' => ∃ v', e = .returned v' ∧ w'.ownsRow B 31 3 v' (M.filter (fun m => !emp m)).length (flat (M.filter (fun m => !emp m))) ∧ v'.ownBlock = v.ownBlock ∧ w.grownBy w' v.ownBlock := by
  have h0 := hown
  obtain ⟨hl, ⟨rfl, hz⟩ | ⟨g, c, cur, rfl, _⟩⟩ := hown
  · obtain rfl : M = [] := List.eq_nil_of_length_eq_zero hz
    refine (delete41_nil w).mono ?_
    rintro e w' ⟨rfl, hb⟩
    exact ⟨_, rfl, ⟨rfl, .inl ⟨rfl, rfl⟩⟩, rfl, grown_below hb _⟩
  · refine (delete41_some B g c M w hm h0).mono ?_
    rintro e w' ⟨n, rfl, hn, ho, hg⟩
    rw [hn] at ho
    exact ⟨_, rfl, by rw [hn]; exact ho, rfl, hg⟩
end Go.Proofs.YbulkclxkGreat.del
