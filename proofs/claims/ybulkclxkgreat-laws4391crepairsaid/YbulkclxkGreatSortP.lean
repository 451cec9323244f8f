import Derived.Test.YbulkclxkGreatSortI
import Derived.Test.YbulkclxkGreatBook
namespace Go.Proofs.YbulkclxkGreat.srt
open Go.ChangeShapes Go.WideShapes Go.ChangeAt Go.RowKit
open lab ring maps sup put del rep order
set_option linter.unusedVariables false

set_option maxHeartbeats 1000000 in
theorem cmp64p (p q : Nat × Nat) (hp : p.2 < 24) (hq : q.2 < 24) (w : World) :
    Calls Ybaz.prog 64 #[.agg #[.string (ent p).a, .int .u64 (ent p).b, .int .u8 (ent p).n], .agg #[.string (ent q).a, .int .u64 (ent q).b, .int .u8 (ent q).n]] w fun e w' => e = .returned (.int .i64 (cmpI (key p.2) (key q.2))) ∧ Below w.heap.size w w' := by
  have h1 := ln_range p.2 (by omega)
  have h2 := ln_range q.2 (by omega)
  have HO : Hid (∀ wx, Calls Ybaz.prog 48 #[.agg #[.int .u64 (ent p).b, .int .u8 (ent p).n], .agg #[.int .u64 (ent q).b, .int .u8 (ent q).n]] wx fun e w' => e = .returned (.int .i64 (cmpI (key p.2) (key q.2))) ∧ Below wx.heap.size wx w') := fun wx => order_any (lb p.2) (ln p.2) (lb q.2) (ln q.2) wx (Int.le_of_lt h1.1) h1.2 (Int.le_of_lt h2.1) h2.2
  generalize cmpI (key p.2) (key q.2) = r at HO ⊢
  generalize ent p = P at *
  generalize ent q = Q at *
  go_enter Ybaz.func64, Ybaz.ntmps64
  go_wp2_with (go_at_call 48; refine (HO.out _).mono ?_; rintro e w1 ⟨rfl, hb⟩)
  go_ret
  exact ⟨rfl, (((Below.refl _ w).alloc (Nat.le_refl _) _).alloc (by simp) _).trans (hb.mono (by simp; omega))⟩

def Ins (k m : Nat) (T : List (Nat × Nat)) : Prop := ∃ A y C D, T = A ++ y :: (C ++ D) ∧ A.length = m ∧ A.length + C.length = k ∧ Up (A ++ C) ∧ ∀ c ∈ C, key y.2 < key c.2
theorem Ins.start {k : Nat} {T : List (Nat × Nat)} (h : Up (T.take k)) (hk : k < T.length) : Ins k k T := by
  refine ⟨T.take k, T[k], [], T.drop (k + 1), ?_, by simp; omega, by simp; omega, by simpa using h, by simp⟩
  rw [List.nil_append, ← List.drop_eq_getElem_cons, List.take_append_drop]
theorem Ins.done0 {k : Nat} {T : List (Nat × Nat)} (h : Ins k 0 T) : Up (T.take (k + 1)) := by
  obtain ⟨A, y, C, D, rfl, hA, hk, hU, hC⟩ := h
  obtain rfl : A = [] := List.eq_nil_of_length_eq_zero hA
  simp only [List.nil_append, List.length_nil, Nat.zero_add] at *
  rw [List.take_succ_cons, List.take_left' hk]
  exact Up.put (A := []) hU (by simp) hC
theorem Ins.shape {k j : Nat} {A R : List (Nat × Nat)} {z y : Nat × Nat} (h : Ins k (j + 1) (A ++ z :: y :: R)) (hA : A.length = j) : ∃ C D, R = C ++ D ∧ A.length + 1 + C.length = k ∧ Up (A ++ z :: C) ∧ ∀ c ∈ C, key y.2 < key c.2 := by
  obtain ⟨A0, y0, C, D, hT, hA0, hk, hU, hC⟩ := h
  have e : (A ++ [z]) ++ (y :: R) = A0 ++ (y0 :: (C ++ D)) := by rw [← hT]; simp
  obtain ⟨h1, h2⟩ := List.append_inj e (by simp; omega)
  obtain ⟨rfl, rfl⟩ := List.cons.inj h2
  subst h1
  exact ⟨C, D, rfl, by simpa using hk, by simpa using hU, hC⟩
theorem Ins.swap {k j : Nat} {A R : List (Nat × Nat)} {z y : Nat × Nat} (h : Ins k (j + 1) (A ++ z :: y :: R)) (hA : A.length = j) (hlt : key y.2 < key z.2) : Ins k j (A ++ y :: z :: R) := by
  obtain ⟨C, D, rfl, hk, hU, hC⟩ := h.shape hA
  refine ⟨A, y, z :: C, D, rfl, hA, by simp; omega, hU, ?_⟩
  intro c hc
  rcases List.mem_cons.1 hc with rfl | hc
  · exact hlt
  · exact hC c hc
theorem Ins.done {k j : Nat} {A R : List (Nat × Nat)} {z y : Nat × Nat} (h : Ins k (j + 1) (A ++ z :: y :: R)) (hA : A.length = j) (hlt : key z.2 < key y.2) : Up ((A ++ z :: y :: R).take (k + 1)) := by
  obtain ⟨C, D, rfl, hk, hU, hC⟩ := h.shape hA
  have e : (A ++ z :: y :: (C ++ D)) = ((A ++ [z]) ++ y :: C) ++ D := by simp
  rw [e, List.take_left' (by simp; omega)]
  have hU' : Up ((A ++ [z]) ++ C) := by simpa using hU
  refine hU'.put ?_ hC
  intro p hp
  rcases List.mem_append.1 hp with hp | hp
  · have := (Up.out hU).1 p hp; omega
  · rw [List.mem_singleton.1 hp]; exact hlt

theorem Nodup2 {T : List (Nat × Nat)} {A R : List (Nat × Nat)} {z y : Nat × Nat} (h : (T.map (·.2)).Nodup) (hT : T = A ++ z :: y :: R) : z.2 ≠ y.2 := by
  rw [hT, List.map_append, List.map_cons, List.map_cons] at h
  have := (List.nodup_append.1 h).2.1
  rw [List.nodup_cons] at this
  intro e
  exact this.1 (by rw [e]; simp)

theorem swap3 {w : World} {Bo go n c j m : Nat} {A R T : List (Nat × Nat)} {p q : Nat × Nat} (h : w.ownsRow Bo 31 3 (.slice (some ⟨go, 0, none⟩) n c) n (flat (Lf T))) (hT : T = A ++ p :: q :: R) (hj : A.length = j) (hm : m = j + 1) :
    ∀ w3, w3 = ((((((w.setCell ⟨go, m * 3, none⟩ (.string (ent p).a)).setCell ⟨go, m * 3 + 1, none⟩ (.int .u64 (ent p).b)).setCell ⟨go, m * 3 + 2, none⟩ (.int .u8 (ent p).n)).setCell ⟨go, j * 3, none⟩ (.string (ent q).a)).setCell ⟨go, j * 3 + 1, none⟩ (.int .u64 (ent q).b)).setCell ⟨go, j * 3 + 2, none⟩ (.int .u8 (ent q).n)).drew ∨
      w3 = ((((((w.setCell ⟨go, j * 3, none⟩ (.string (ent q).a)).setCell ⟨go, j * 3 + 1, none⟩ (.int .u64 (ent q).b)).setCell ⟨go, j * 3 + 2, none⟩ (.int .u8 (ent q).n)).setCell ⟨go, m * 3, none⟩ (.string (ent p).a)).setCell ⟨go, m * 3 + 1, none⟩ (.int .u64 (ent p).b)).setCell ⟨go, m * 3 + 2, none⟩ (.int .u8 (ent p).n)).drew →
      w3.ownsRow Bo 31 3 (.slice (some ⟨go, 0, none⟩) n c) n (flat (Lf (A ++ q :: p :: R))) ∧ w.grownBy w3 (some go) := by
  have hl : (Lf A).length = j := by rw [Lf_length, hj]
  have eT : Lf T = Lf A ++ ent p :: ent q :: Lf R := by rw [hT]; simp [Lf]
  have eN : Lf (A ++ q :: p :: R) = Lf A ++ ent q :: ent p :: Lf R := by simp [Lf]
  rintro w3 (rfl | rfl)
  · have x1 := store3 h m (ent p)
    have x2 := store3 x1.1 j (ent q)
    rw [eN]
    have : ((Lf T).set m (ent p)).set j (ent q) = Lf A ++ ent q :: ent p :: Lf R := by rw [eT, hm, ← hl]; exact swap_eq _ _ _ _
    rw [this] at x2
    exact ⟨x2.1.drew, grownBy_trans (grownBy_trans x1.2 x2.2) (grown_below (Below.refl _ _).drew _)⟩
  · have x1 := store3 h j (ent q)
    have x2 := store3 x1.1 m (ent p)
    rw [eN]
    have : ((Lf T).set j (ent q)).set m (ent p) = Lf A ++ ent q :: ent p :: Lf R := by rw [eT, hm, ← hl]; exact swap_eq' _ _ _ _
    rw [this] at x2
    exact ⟨x2.1.drew, grownBy_trans (grownBy_trans x1.2 x2.2) (grown_below (Below.refl _ _).drew _)⟩

/-- What is read of an entry beside one that has been written. -/
theorem far3 {w : World} {Bo go n c : Nat} {T : List (Nat × Nat)} (h : w.ownsRow Bo 31 3 (.slice (some ⟨go, 0, none⟩) n c) n (flat (Lf T))) (hTl : T.length = n) (m j : Nat) (hmj : m ≠ j) (hj : j < n) (p : Pr) (q : Nat × Nat) (hq : T[j]? = some q) :
    let w' := ((w.setCell ⟨go, m * 3, none⟩ (.string p.a)).setCell ⟨go, m * 3 + 1, none⟩ (.int .u64 p.b)).setCell ⟨go, m * 3 + 2, none⟩ (.int .u8 p.n)
    w'.cell? ⟨go, j * 3, none⟩ = some (.string (ent q).a) ∧ w'.cell? ⟨go, j * 3 + 1, none⟩ = some (.int .u64 (ent q).b) ∧ w'.cell? ⟨go, j * 3 + 2, none⟩ = some (.int .u8 (ent q).n) ∧ w'.frozen? ⟨go, j * 3, none⟩ = false ∧ w'.frozen? ⟨go, j * 3 + 1, none⟩ = false ∧ w'.frozen? ⟨go, j * 3 + 2, none⟩ = false := by
  intro w'
  have x := (store3 h m p).1
  have hl : j < ((Lf T).set m p).length := by rw [List.length_set, Lf_length, hTl]; exact hj
  have hnth : nth ((Lf T).set m p) j = ent q := by
    rw [nth, List.getD_eq_getElem?_getD, List.getElem?_set_ne hmj, Lf, List.getElem?_map, hq]; rfl
  have hat := flat_at ((Lf T).set m p) j hl
  rw [hnth] at hat
  exact ⟨(x.cellAt _ (by omega)).trans hat.1, (x.cellAt _ (by omega)).trans hat.2.1, (x.cellAt _ (by omega)).trans hat.2.2, x.frozenAt _, x.frozenAt _, x.frozenAt _⟩

set_option maxRecDepth 100000 in
set_option maxHeartbeats 2000000 in
theorem insertion99 (Bo go c n : Nat) (Q0 : List (Nat × Nat)) (w : World) (hn : Q0.length = n) (hn2 : n ≤ 1000) (hown : w.ownsRow Bo 31 3 (.slice (some ⟨go, 0, none⟩) n c) n (flat (Lf Q0)))
    (hb : ∀ q ∈ Q0, q.2 < 24) (hnd : (Q0.map (·.2)).Nodup) :
    Calls Ybaz.prog 99 #[.slice (some ⟨go, 0, none⟩) n c, .int .i64 0, .int .i64 n, .func (.func 64) #[] #[]] w fun e w' => e = .returned (.tuple #[]) ∧ ∃ Q, Q.Perm Q0 ∧ Up Q ∧ w'.ownsRow Bo 31 3 (.slice (some ⟨go, 0, none⟩) n c) n (flat (Lf Q)) ∧ w.grownBy w' (some go) := by
  have HO : Hid (w.ownsRow Bo 31 3 (.slice (some ⟨go, 0, none⟩) n c) n (flat (Lf Q0))) := hown
  have HB : Hid (∀ q ∈ Q0, q.2 < 24) := hb
  have HN : Hid (Q0.map (·.2)).Nodup := hnd
  clear hown hb hnd
  go_enter Ybaz.func99, Ybaz.ntmps99
  go_wp2
  go_loopw [8, 9] (fun i _ wr => ∃ (k : Nat) (Q : List (Nat × Nat)), 1 ≤ k ∧ k ≤ 1001 ∧ i = .int .i64 k ∧ Hid (Q.Perm Q0) ∧ Hid (Up (Q.take k)) ∧ Hid (wr.ownsRow Bo 31 3 (.slice (some ⟨go, 0, none⟩) n c) n (flat (Lf Q))) ∧ w.grownBy wr (some go)) (fun i _ _ => n - (intOf i).toNat)
  case atStart =>
    refine ⟨1, Q0, by omega, by omega, rfl, List.Perm.refl _, ?_, HO.out, ⟨rfl, rfl, rfl, Nat.le_refl _, fun _ _ _ => rfl⟩⟩
    have : ∀ T : List (Nat × Nat), Up (T.take 1) := fun T => by cases T <;> simp [Up]
    exact this Q0
  case round =>
    obtain ⟨k, Q, hk1, hk2, rfl, hQ, hUp, hown, hgr⟩ := hrel
    have hQl : Q.length = n := by rw [hQ.out.length_eq, hn]
    by_cases hkn : k < n
    · have i1 : (k : Int) < (n : Int) := by omega
      have HI0 : Hid (Ins k k Q) := Ins.start hUp.out (by omega)
      clear hUp
      go_wp2
      go_loopw [9] (fun j wr => ∃ (m : Nat) (Q : List (Nat × Nat)), m ≤ k ∧ j = .int .i64 m ∧ Hid (Q.Perm Q0) ∧ Hid (Ins k m Q) ∧ Hid (wr.ownsRow Bo 31 3 (.slice (some ⟨go, 0, none⟩) n c) n (flat (Lf Q))) ∧ w.grownBy wr (some go)) (fun j _ => (intOf j).toNat)
      case atStart => exact ⟨k, Q, Nat.le_refl _, rfl, hQ, HI0, hown, hgr⟩
      case round =>
        obtain ⟨m, T, hm, rfl, hT, hIn, hownT, hgrT⟩ := hrel
        have hTl : T.length = n := by rw [hT.out.length_eq, hn]
        rcases Nat.eq_zero_or_pos m with rfl | hmp
        · have hd : decide ((0 : Int) > (0 : Int)) = false := by decide
          go_wp2_with fail
          go_quiet (fail)
          go_wp2
          go_roundw
          case rel => exact ⟨k + 1, T, by omega, by omega, by go_num, hT, hIn.out.done0, ownsRow_block hownT.out (fun _ _ => rfl), ⟨hgrT.os, hgrT.tape, hgrT.output, hgrT.size, hgrT.block⟩⟩
          case measure => simp [intOf]; omega
        · obtain ⟨j, hmj0⟩ : ∃ j, m = j + 1 := ⟨m - 1, by omega⟩
          have hj1 : j + 1 < T.length := by omega
          obtain ⟨A, R, hTe0, hAl0⟩ := cut2' T j hj1
          have hgj : T[j]? = some T[j] := List.getElem?_eq_getElem (by omega)
          have hgm : T[m]? = some T[j + 1] := by rw [hmj0]; exact List.getElem?_eq_getElem hj1
          have hnj : nth (Lf T) j = ent T[j] := nth_Lf T j (by omega)
          have hnm : nth (Lf T) m = ent T[j + 1] := by rw [hmj0]; exact nth_Lf T (j + 1) hj1
          have fj := flat_at (Lf T) j (by rw [Lf_length]; omega)
          have fm := flat_at (Lf T) m (by rw [Lf_length]; omega)
          rw [hnj] at fj
          rw [hnm] at fm
          have hpm : T[j] ∈ Q0 := hT.out.mem_iff.1 (List.getElem_mem _)
          have hqm : T[j + 1] ∈ Q0 := hT.out.mem_iff.1 (List.getElem_mem _)
          have hmne : m ≠ j := by omega
          generalize T[j] = p at hTe0 fj hpm hgj
          generalize T[j + 1] = q at hTe0 fm hqm hgm
          clear hnj hnm
          have a0 : wr.cell? ⟨go, j * 3, none⟩ = some (.string (ent p).a) := (hownT.out.cellAt _ (by omega)).trans fj.1
          have a1 : wr.cell? ⟨go, j * 3 + 1, none⟩ = some (.int .u64 (ent p).b) := (hownT.out.cellAt _ (by omega)).trans fj.2.1
          have a2 : wr.cell? ⟨go, j * 3 + 2, none⟩ = some (.int .u8 (ent p).n) := (hownT.out.cellAt _ (by omega)).trans fj.2.2
          have b0 : wr.cell? ⟨go, m * 3, none⟩ = some (.string (ent q).a) := (hownT.out.cellAt _ (by omega)).trans fm.1
          have b1 : wr.cell? ⟨go, m * 3 + 1, none⟩ = some (.int .u64 (ent q).b) := (hownT.out.cellAt _ (by omega)).trans fm.2.1
          have b2 : wr.cell? ⟨go, m * 3 + 2, none⟩ = some (.int .u8 (ent q).n) := (hownT.out.cellAt _ (by omega)).trans fm.2.2
          have hp24 := HB.out p hpm
          have hq24 := HB.out q hqm
          have hne2 : p.2 ≠ q.2 := Nodup2 ((hT.out.map _).nodup_iff.2 HN.out) hTe0
          have hkne : key q.2 ≠ key p.2 := fun e => hne2 (key_inj _ hq24 _ hp24 e).symm
          have HU : Hid (∀ wx, Calls Ybaz.prog 64 #[.agg #[.string (ent q).a, .int .u64 (ent q).b, .int .u8 (ent q).n], .agg #[.string (ent p).a, .int .u64 (ent p).b, .int .u8 (ent p).n]] wx fun e w' => e = .returned (.int .i64 (cmpI (key q.2) (key p.2))) ∧ Below wx.heap.size wx w') := fun wx => cmp64p q p hq24 hp24 wx
          have hcmp : Hid ((cmpI (key q.2) (key p.2) < 0 → key q.2 < key p.2) ∧ (¬ cmpI (key q.2) (key p.2) < 0 → key p.2 < key q.2)) := by
            constructor
            · intro h; unfold cmpI at h; split at h
              · assumption
              · split at h <;> omega
            · intro h; unfold cmpI at h; split at h
              · omega
              · split at h <;> omega
          generalize cmpI (key q.2) (key p.2) = r at HU hcmp
          have hgw : go < wr.heap.size := (hownT.out.lt go rfl).2
          have hmj : Hid (m = j + 1) := hmj0
          have hTe : Hid (T = A ++ p :: q :: R) := hTe0
          have hAl : Hid (A.length = j) := hAl0
          have Hgj : Hid (T[j]? = some p) := hgj
          have Hgm : Hid (T[m]? = some q) := hgm
          have hd : decide ((m : Int) > (0 : Int)) = true := by simp; omega
          have e0 : (0 : Int) ≤ (j : Int) := by omega
          have e1 : (m : Int) < (n : Int) := by omega
          have e2 : (j : Int) < (n : Int) := by omega
          have e3 : (0 : Int) ≤ (m : Int) := by omega
          have e4 : IntKind.i64.wrap ((m : Int) - 1) = (j : Int) := by rw [IntKind.wrap_i64]; omega
          have e5 : wrap64 ((m : Int) - 1) = (j : Int) := by rw [wrap64]; omega
          clear hmj0 hTe0 hAl0 hj1 fj fm hgj hgm hne2 hkne
          go_wp2_with fail
          go_region_held3 (fun w' => w'.cell? ⟨go, j * 3, none⟩ = some (.string (ent p).a) ∧ w'.cell? ⟨go, j * 3 + 1, none⟩ = some (.int .u64 (ent p).b) ∧ w'.cell? ⟨go, j * 3 + 2, none⟩ = some (.int .u8 (ent p).n) ∧ w'.cell? ⟨go, m * 3, none⟩ = some (.string (ent q).a) ∧ w'.cell? ⟨go, m * 3 + 1, none⟩ = some (.int .u64 (ent q).b) ∧ w'.cell? ⟨go, m * 3 + 2, none⟩ = some (.int .u8 (ent q).n))
            (first | exact ⟨q0, q1, q2, q3, q4, q5⟩ | go_keep)
            ((go_at_call 64; refine (HU.out _).mono ?_; rintro e w2 ⟨rfl, hb2⟩
              have q0 : w2.cell? ⟨go, j * 3, none⟩ = some (.string (ent p).a) := (hb2.cell (p := ⟨go, j * 3, none⟩) hgw).trans a0
              have q1 : w2.cell? ⟨go, j * 3 + 1, none⟩ = some (.int .u64 (ent p).b) := (hb2.cell (p := ⟨go, j * 3 + 1, none⟩) hgw).trans a1
              have q2 : w2.cell? ⟨go, j * 3 + 2, none⟩ = some (.int .u8 (ent p).n) := (hb2.cell (p := ⟨go, j * 3 + 2, none⟩) hgw).trans a2
              have q3 : w2.cell? ⟨go, m * 3, none⟩ = some (.string (ent q).a) := (hb2.cell (p := ⟨go, m * 3, none⟩) hgw).trans b0
              have q4 : w2.cell? ⟨go, m * 3 + 1, none⟩ = some (.int .u64 (ent q).b) := (hb2.cell (p := ⟨go, m * 3 + 1, none⟩) hgw).trans b1
              have q5 : w2.cell? ⟨go, m * 3 + 2, none⟩ = some (.int .u8 (ent q).n) := (hb2.cell (p := ⟨go, m * 3 + 2, none⟩) hgw).trans b2))
          all_goals (
            have hB2 : Below wr.heap.size wr w2 := (Below.refl _ wr).drew.trans (hb2.mono (by simp))
            have hown2 : w2.ownsRow Bo 31 3 (.slice (some ⟨go, 0, none⟩) n c) n (flat (Lf T)) := ownsRow_block hownT.out (fun g' hg' => hB2.block g' (hownT.out.lt g' hg').2)
            have HO2 : Hid (w2.ownsRow Bo 31 3 (.slice (some ⟨go, 0, none⟩) n c) n (flat (Lf T))) := hown2
            have hgr2 : w.grownBy w2 (some go) := grownBy_trans hgrT (grown_below hB2 _)
            have f0 : w2.frozen? ⟨go, j * 3, none⟩ = false := hown2.frozenAt _
            have f1 : w2.frozen? ⟨go, j * 3 + 1, none⟩ = false := hown2.frozenAt _
            have f2 : w2.frozen? ⟨go, j * 3 + 2, none⟩ = false := hown2.frozenAt _
            have f3 : w2.frozen? ⟨go, m * 3, none⟩ = false := hown2.frozenAt _
            have f4 : w2.frozen? ⟨go, m * 3 + 1, none⟩ = false := hown2.frozenAt _
            have f5 : w2.frozen? ⟨go, m * 3 + 2, none⟩ = false := hown2.frozenAt _
            clear hown2
            by_cases hr : r < 0
            · have hlt := hcmp.out.1 (by omega)
              have HI2 : Hid (Ins k j (A ++ q :: p :: R)) := by
                have h0 := hIn.out
                rw [hTe.out, hmj.out] at h0
                exact h0.swap hAl.out hlt
              have hfin : Hid (∀ w3, _ → _) := swap3 HO2.out hTe.out hAl.out hmj.out
              have s1 := far3 HO2.out hTl m j hmne (by omega) (ent p) p Hgj.out
              have s2 := far3 HO2.out hTl j m (Ne.symm hmne) (by omega) (ent q) q Hgm.out
              dsimp only at s1 s2
              have hperm : Hid ((A ++ q :: p :: R).Perm Q0) := (List.Perm.append_left A (List.Perm.swap p q R)).trans (by have := hT.out; rwa [hTe.out] at this)
              clear hlt
              go_wp2_with fail
              go_region
              all_goals (
                go_wp2
                go_roundw
                case rel => exact ⟨j, A ++ q :: p :: R, by have := hmj.out; omega, by go_num, hperm, HI2, (hfin.out _ (by first | exact .inl rfl | exact .inr rfl)).1, grownBy_trans hgr2 (hfin.out _ (by first | exact .inl rfl | exact .inr rfl)).2⟩
                case measure => have := hmj.out; simp [intOf]; omega)
            · have hlt := hcmp.out.2 (by omega)
              have HU2 : Hid (Up (T.take (k + 1))) := by
                have h0 := hIn.out
                rw [hTe.out, hmj.out] at h0
                have := h0.done hAl.out hlt
                rwa [← hTe.out] at this
              clear hlt
              go_wp2
              go_roundw
              case rel => exact ⟨k + 1, T, by omega, by omega, by go_num, hT, HU2, HO2.out, hgr2⟩
              case measure => simp [intOf]; omega)
    · go_wp2
      go_end0
      refine ⟨rfl, Q, hQ.out, ?_, hown.out, hgr⟩
      have := hUp.out
      rwa [List.take_of_length_le (by omega)] at this

set_option maxRecDepth 100000 in
set_option maxHeartbeats 1000000 in
theorem pdq81 (s f : Value) (n : Nat) (r : Int) (w : World) (hn : n ≤ 12) (Q : World → Prop) (h : Calls Ybaz.prog 99 #[s, .int .i64 0, .int .i64 n, f] w fun e w' => e = .returned (.tuple #[]) ∧ Q w') :
    Calls Ybaz.prog 81 #[s, .int .i64 0, .int .i64 n, .int .i64 r, f] w fun e w' => e = .returned (.tuple #[]) ∧ Q w' := by
  have HH : Hid (Calls Ybaz.prog 99 #[s, .int .i64 0, .int .i64 n, f] w fun e w' => e = .returned (.tuple #[]) ∧ Q w') := h
  clear h
  have e1 : (n : Int) ≤ 12 := by omega
  go_enter Ybaz.func81, Ybaz.ntmps81
  go_wp2
  refine wp_loop_rounds 1 ?_
  rw [rounds_succ]
  go_wp2_with (go_at_call 99; refine HH.out.mono ?_; rintro e w1 ⟨rfl, hq⟩)
  refine bodyPost_ret (results_none rfl _ _ _) rfl ?_
  exact ⟨rfl, hq⟩

set_option maxRecDepth 100000 in
set_option maxHeartbeats 1000000 in
theorem sort63 (ao : Option Addr) (c n : Nat) (f : Value) (w : World) (hn : n ≤ 12) (Q : World → Prop) (h : Calls Ybaz.prog 99 #[.slice ao n c, .int .i64 0, .int .i64 n, f] w fun e w' => e = .returned (.tuple #[]) ∧ Q w') :
    Calls Ybaz.prog 63 #[.slice ao n c, f] w fun e w' => e = .returned (.tuple #[]) ∧ Q w' := by
  have HH : Hid (∀ r, Calls Ybaz.prog 81 #[.slice ao n c, .int .i64 0, .int .i64 n, .int .i64 r, f] w fun e w' => e = .returned (.tuple #[]) ∧ Q w') := fun r => pdq81 _ f n r w hn Q h
  clear h
  have e1 : IntKind.u64.wrap (n : Int) = n := by rw [IntKind.wrap_u64]; omega
  go_enter Ybaz.func63, Ybaz.ntmps63
  go_wp2_with (first
    | (go_at_call 53; refine (len53 n hn w).mono ?_; rintro e w1 ⟨⟨r, rfl⟩, rfl⟩)
    | (go_at_call 81; refine (HH.out _).mono ?_; rintro e w2 ⟨rfl, hq⟩))
  go_end0
  exact ⟨rfl, hq⟩
end Go.Proofs.YbulkclxkGreat.srt
