import Derived.Test.YbulkclxkGreatDel
import Derived.Test.YbulkclxkGreatLabelOf
namespace Go.Proofs.YbulkclxkGreat.srt
open Go.ChangeShapes Go.WideShapes Go.ChangeAt Go.RowKit
open lab ring maps sup put del
set_option linter.unusedVariables false

def ints (Q : List Nat) : List Value := Q.map fun (p : Nat) => Value.int .i64 p
theorem ints_at (Q : List Nat) (j : Nat) (h : j < Q.length) : (ints Q)[j]? = some (.int .i64 (Q[j] : Nat)) := by simp [ints, List.getElem?_eq_getElem h]
theorem ints_set (Q : List Nat) (j p : Nat) : ints (Q.set j p) = (ints Q).set j (.int .i64 p) := by simp [ints, List.map_set]

theorem cut2 {α : Type} (T : List α) (j : Nat) (h : j + 1 < T.length) : T = T.take j ++ T[j] :: T[j + 1] :: T.drop (j + 2) := by
  rw [← List.drop_eq_getElem_cons, ← List.drop_eq_getElem_cons, List.take_append_drop]
theorem swap_eq {α : Type} (A R : List α) (x y : α) : ((A ++ x :: y :: R).set (A.length + 1) x).set A.length y = A ++ y :: x :: R := by simp
theorem swap_eq' {α : Type} (A R : List α) (x y : α) : ((A ++ x :: y :: R).set A.length y).set (A.length + 1) x = A ++ y :: x :: R := by simp
theorem cut2' {α : Type} (T : List α) (j : Nat) (h : j + 1 < T.length) : ∃ A R, T = A ++ T[j] :: T[j + 1] :: R ∧ A.length = j := ⟨T.take j, T.drop (j + 2), cut2 T j h, by simp; omega⟩

set_option maxRecDepth 100000 in
set_option maxHeartbeats 2000000 in
theorem insertion91 (Bo go c n rbx : Nat) (Q0 : List Nat) (w : World) (hn : Q0.length = n) (hn2 : n ≤ 1000) (hown : w.ownsRow Bo 3 1 (.slice (some ⟨go, 0, none⟩) n c) n (ints Q0))
    (hc : ∀ wx, w.grownBy wx (some go) → ∀ p q : Nat, p ∈ Q0 → q ∈ Q0 → Calls Ybaz.prog 62 #[.int .i64 p, .int .i64 q, .pointer (some ⟨rbx, 0, none⟩)] wx fun e w' => (∃ r, e = .returned (.int .i64 r)) ∧ Below wx.heap.size wx w') :
    Calls Ybaz.prog 91 #[.slice (some ⟨go, 0, none⟩) n c, .int .i64 0, .int .i64 n, .func (.func 62) #[] #[.pointer (some ⟨rbx, 0, none⟩)]] w fun e w' => e = .returned (.tuple #[]) ∧ ∃ Q, Q.Perm Q0 ∧ w'.ownsRow Bo 3 1 (.slice (some ⟨go, 0, none⟩) n c) n (ints Q) ∧ w.grownBy w' (some go) := by
  have HO : Hid (w.ownsRow Bo 3 1 (.slice (some ⟨go, 0, none⟩) n c) n (ints Q0)) := hown
  have HC : Hid (∀ wx, w.grownBy wx (some go) → ∀ p q : Nat, p ∈ Q0 → q ∈ Q0 → Calls Ybaz.prog 62 #[.int .i64 p, .int .i64 q, .pointer (some ⟨rbx, 0, none⟩)] wx fun e w' => (∃ r, e = .returned (.int .i64 r)) ∧ Below wx.heap.size wx w') := hc
  clear hown hc
  go_enter Ybaz.func91, Ybaz.ntmps91
  go_wp2
  go_loopw [8, 9] (fun i _ wr => ∃ (k : Nat) (Q : List Nat), 1 ≤ k ∧ k ≤ 1001 ∧ i = .int .i64 k ∧ Hid (Q.Perm Q0) ∧ Hid (wr.ownsRow Bo 3 1 (.slice (some ⟨go, 0, none⟩) n c) n (ints Q)) ∧ w.grownBy wr (some go)) (fun i _ _ => n - (intOf i).toNat)
  case atStart => exact ⟨1, Q0, by omega, by omega, rfl, List.Perm.refl _, HO.out, ⟨rfl, rfl, rfl, Nat.le_refl _, fun _ _ _ => rfl⟩⟩
  case round =>
    obtain ⟨k, Q, hk1, hk2, rfl, hQ, hown, hgr⟩ := hrel
    by_cases hkn : k < n
    · have i1 : (k : Int) < (n : Int) := by omega
      go_wp2
      go_loopw [9] (fun j wr => ∃ (m : Nat) (Q : List Nat), m ≤ k ∧ j = .int .i64 m ∧ Hid (Q.Perm Q0) ∧ Hid (wr.ownsRow Bo 3 1 (.slice (some ⟨go, 0, none⟩) n c) n (ints Q)) ∧ w.grownBy wr (some go)) (fun j _ => (intOf j).toNat)
      case atStart => exact ⟨k, Q, Nat.le_refl _, rfl, hQ, hown, hgr⟩
      case round =>
        obtain ⟨m, T, hm, rfl, hT, hownT, hgrT⟩ := hrel
        have hTl : T.length = n := by rw [hT.out.length_eq, hn]
        rcases Nat.eq_zero_or_pos m with rfl | hmp
        · have hd : decide ((0 : Int) > (0 : Int)) = false := by decide
          go_wp2_with fail
          go_quiet (fail)
          go_wp2
          go_roundw
          case rel => exact ⟨k + 1, T, by omega, by omega, by go_num, hT, ownsRow_block hownT.out (fun _ _ => rfl), ⟨hgrT.os, hgrT.tape, hgrT.output, hgrT.size, hgrT.block⟩⟩
          case measure => simp [intOf]; omega
        · obtain ⟨j, hmj0⟩ : ∃ j, m = j + 1 := ⟨m - 1, by omega⟩
          have hj1 : j + 1 < T.length := by omega
          obtain ⟨A, R, hTe0, hAl0⟩ := cut2' T j hj1
          have a0 : wr.cell? ⟨go, j, none⟩ = some (.int .i64 (T[j] : Nat)) := (hownT.out.cellAt j (by omega)).trans (ints_at T j (by omega))
          have a1 : wr.cell? ⟨go, m, none⟩ = some (.int .i64 (T[j + 1] : Nat)) := by rw [hmj0]; exact (hownT.out.cellAt (j + 1) (by omega)).trans (ints_at T (j + 1) hj1)
          have hp : T[j] ∈ Q0 := hT.out.mem_iff.1 (List.getElem_mem _)
          have hq : T[j + 1] ∈ Q0 := hT.out.mem_iff.1 (List.getElem_mem _)
          generalize T[j] = p at hTe0 a0 hp
          generalize T[j + 1] = q at hTe0 a1 hq
          have HU : Hid (∀ wx, Below wr.heap.size wr wx → Calls Ybaz.prog 62 #[.int .i64 q, .int .i64 p, .pointer (some ⟨rbx, 0, none⟩)] wx fun e w' => (∃ r, e = .returned (.int .i64 r)) ∧ Below wx.heap.size wx w') := fun wx hb => HC.out wx (grownBy_trans hgrT (grown_below hb _)) q p hq hp
          have hgw : go < wr.heap.size := (hownT.out.lt go rfl).2
          have hmj : Hid (m = j + 1) := hmj0
          have hTe : Hid (T = A ++ p :: q :: R) := hTe0
          have hAl : Hid (A.length = j) := hAl0
          have hd : decide ((m : Int) > (0 : Int)) = true := by simp; omega
          have e0 : (0 : Int) ≤ (j : Int) := by omega
          have e1 : (m : Int) < (n : Int) := by omega
          have e2 : (j : Int) < (n : Int) := by omega
          have e3 : (0 : Int) ≤ (m : Int) := by omega
          have e4 : IntKind.i64.wrap ((m : Int) - 1) = (j : Int) := by rw [IntKind.wrap_i64]; omega
          have e5 : wrap64 ((m : Int) - 1) = (j : Int) := by rw [wrap64]; omega
          clear hmj0 hTe0 hAl0 hj1
          go_wp2_with fail
          go_region_held3 (fun w' => w'.cell? ⟨go, j, none⟩ = some (.int .i64 p) ∧ w'.cell? ⟨go, m, none⟩ = some (.int .i64 q))
            (first | exact ⟨q0, q1⟩ | go_keep)
            ((go_at_call 62; refine (HU.out _ (Below.refl _ _).drew).mono ?_; rintro e w2 ⟨⟨r, rfl⟩, hb2⟩
              have q0 : w2.cell? ⟨go, j, none⟩ = some (.int .i64 p) := (hb2.cell (p := ⟨go, j, none⟩) hgw).trans a0
              have q1 : w2.cell? ⟨go, m, none⟩ = some (.int .i64 q) := (hb2.cell (p := ⟨go, m, none⟩) hgw).trans a1))
          all_goals (
            have hB2 : Below wr.heap.size wr w2 := (Below.refl _ wr).drew.trans (hb2.mono (by simp))
            have hown2 : w2.ownsRow Bo 3 1 (.slice (some ⟨go, 0, none⟩) n c) n (ints T) := ownsRow_block hownT.out (fun g' hg' => hB2.block g' (hownT.out.lt g' hg').2)
            have HO2 : Hid (w2.ownsRow Bo 3 1 (.slice (some ⟨go, 0, none⟩) n c) n (ints T)) := hown2
            have hgr2 : w.grownBy w2 (some go) := grownBy_trans hgrT (grown_below hB2 _)
            have f0 : w2.frozen? ⟨go, j, none⟩ = false := hown2.frozenAt _
            have f1 : w2.frozen? ⟨go, m, none⟩ = false := hown2.frozenAt _
            clear hown2
            by_cases hr : r < 0
            · have hmne : m ≠ j := by have := hmj.out; omega
              have t0 : (ints T)[j]? = some (.int .i64 (p : Nat)) := (HO2.out.cellAt j (by omega)).symm.trans q0
              have t1 : (ints T)[m]? = some (.int .i64 (q : Nat)) := (HO2.out.cellAt m (by omega)).symm.trans q1
              have s0 : ∀ x, (w2.setCell ⟨go, m, none⟩ x).cell? ⟨go, j, none⟩ = some (.int .i64 p) := fun x => ((HO2.out.stored m x).1.cellAt j (by omega)).trans (by rw [List.getElem?_set_ne hmne]; exact t0)
              have s1 : ∀ x, (w2.setCell ⟨go, j, none⟩ x).cell? ⟨go, m, none⟩ = some (.int .i64 q) := fun x => ((HO2.out.stored j x).1.cellAt m (by omega)).trans (by rw [List.getElem?_set_ne (Ne.symm hmne)]; exact t1)
              have s2 : ∀ x, (w2.setCell ⟨go, m, none⟩ x).frozen? ⟨go, j, none⟩ = false := fun x => (HO2.out.stored m x).1.frozenAt j
              have s3 : ∀ x, (w2.setCell ⟨go, j, none⟩ x).frozen? ⟨go, m, none⟩ = false := fun x => (HO2.out.stored j x).1.frozenAt m
              have hfin : Hid (∀ w3, w3 = ((w2.setCell ⟨go, m, none⟩ (.int .i64 p)).setCell ⟨go, j, none⟩ (.int .i64 q)).drew ∨ w3 = ((w2.setCell ⟨go, j, none⟩ (.int .i64 q)).setCell ⟨go, m, none⟩ (.int .i64 p)).drew → w3.ownsRow Bo 3 1 (.slice (some ⟨go, 0, none⟩) n c) n (ints (A ++ q :: p :: R)) ∧ w.grownBy w3 (some go)) := by
                have h1 : ints (A ++ q :: p :: R) = ((ints T).set m (.int .i64 p)).set j (.int .i64 q) := by
                  rw [← ints_set, ← ints_set, hmj.out, ← hAl.out, hTe.out, swap_eq]
                have h2 : ints (A ++ q :: p :: R) = ((ints T).set j (.int .i64 q)).set m (.int .i64 p) := by
                  rw [← ints_set, ← ints_set, hmj.out, ← hAl.out, hTe.out, swap_eq']
                rintro w3 (rfl | rfl)
                · rw [h1]
                  have x1 := HO2.out.stored m (.int .i64 p)
                  have x2 := x1.1.stored j (.int .i64 q)
                  exact ⟨x2.1.drew, grownBy_trans (grownBy_trans hgr2 (grownBy_trans x1.2 x2.2)) (grown_below (Below.refl _ _).drew _)⟩
                · rw [h2]
                  have x1 := HO2.out.stored j (.int .i64 q)
                  have x2 := x1.1.stored m (.int .i64 p)
                  exact ⟨x2.1.drew, grownBy_trans (grownBy_trans hgr2 (grownBy_trans x1.2 x2.2)) (grown_below (Below.refl _ _).drew _)⟩
              have hperm : Hid ((A ++ q :: p :: R).Perm Q0) := (List.Perm.append_left A (List.Perm.swap p q R)).trans (by have := hT.out; rwa [hTe.out] at this)
              clear t0 t1
              go_wp2_with fail
              go_region
              all_goals (
                go_wp2
                go_roundw
                case rel => exact ⟨j, A ++ q :: p :: R, by have := hmj.out; omega, by go_num, hperm, (hfin.out _ (by first | exact .inl rfl | exact .inr rfl)).1, (hfin.out _ (by first | exact .inl rfl | exact .inr rfl)).2⟩
                case measure => have := hmj.out; simp [intOf]; omega)
            · go_wp2
              go_roundw
              case rel => exact ⟨k + 1, T, by omega, by omega, by go_num, hT, HO2.out, hgr2⟩
              case measure => simp [intOf]; omega)
    · go_wp2
      go_end0
      exact ⟨rfl, Q, hQ.out, hown.out, hgr⟩

set_option maxRecDepth 100000 in
theorem len53 (n : Nat) (hn : n ≤ 12) (w : World) : Calls Ybaz.prog 53 #[.int .u64 n] w fun e w' => (∃ r, e = .returned (.int .i64 r)) ∧ w' = w := by
  have HL := len64_any (n : Int) w (by omega) (by omega)
  go_enter Ybaz.func53, Ybaz.ntmps53
  go_wp2_with (go_at_call 17; refine HL.mono ?_; rintro e w' ⟨rfl, rfl⟩)
  go_ret
  exact ⟨⟨_, rfl⟩, rfl⟩

set_option maxRecDepth 100000 in
set_option maxHeartbeats 1000000 in
theorem pdq80 (s f : Value) (n : Nat) (r : Int) (w : World) (hn : n ≤ 12) (Q : World → Prop) (h : Calls Ybaz.prog 91 #[s, .int .i64 0, .int .i64 n, f] w fun e w' => e = .returned (.tuple #[]) ∧ Q w') :
    Calls Ybaz.prog 80 #[s, .int .i64 0, .int .i64 n, .int .i64 r, f] w fun e w' => e = .returned (.tuple #[]) ∧ Q w' := by
  have HH : Hid (Calls Ybaz.prog 91 #[s, .int .i64 0, .int .i64 n, f] w fun e w' => e = .returned (.tuple #[]) ∧ Q w') := h
  clear h
  have e1 : (n : Int) ≤ 12 := by omega
  go_enter Ybaz.func80, Ybaz.ntmps80
  go_wp2
  refine wp_loop_rounds 1 ?_
  rw [rounds_succ]
  go_wp2_with (go_at_call 91; refine HH.out.mono ?_; rintro e w1 ⟨rfl, hq⟩)
  refine bodyPost_ret (results_none rfl _ _ _) rfl ?_
  exact ⟨rfl, hq⟩

set_option maxRecDepth 100000 in
set_option maxHeartbeats 1000000 in
theorem sort61 (ao : Option Addr) (c n : Nat) (f : Value) (w : World) (hn : n ≤ 12) (Q : World → Prop) (h : Calls Ybaz.prog 91 #[.slice ao n c, .int .i64 0, .int .i64 n, f] w fun e w' => e = .returned (.tuple #[]) ∧ Q w') :
    Calls Ybaz.prog 61 #[.slice ao n c, f] w fun e w' => e = .returned (.tuple #[]) ∧ Q w' := by
  have HH : Hid (∀ r, Calls Ybaz.prog 80 #[.slice ao n c, .int .i64 0, .int .i64 n, .int .i64 r, f] w fun e w' => e = .returned (.tuple #[]) ∧ Q w') := fun r => pdq80 _ f n r w hn Q h
  clear h
  have e1 : IntKind.u64.wrap (n : Int) = n := by rw [IntKind.wrap_u64]; omega
  go_enter Ybaz.func61, Ybaz.ntmps61
  go_wp2_with (first
    | (go_at_call 53; refine (len53 n hn w).mono ?_; rintro e w1 ⟨⟨r, rfl⟩, rfl⟩)
    | (go_at_call 80; refine (HH.out _).mono ?_; rintro e w2 ⟨rfl, hq⟩))
  go_end0
  exact ⟨rfl, hq⟩
end Go.Proofs.YbulkclxkGreat.srt
