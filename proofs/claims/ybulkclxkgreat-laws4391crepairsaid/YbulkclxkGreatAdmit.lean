import Derived.Test.YbulkclxkGreatBk
import Derived.Test.YbulkclxkGreatMin
namespace Go.Proofs.YbulkclxkGreat.rep
open Go.ChangeShapes Go.WideShapes Go.ChangeAt Go.RowKit
open lab ring maps sup put hold order del
set_option linter.unusedVariables false

theorem search_bk {w : World} {B rb kb : Nat} {A C : List (Nat × Nat)} {a x : Nat} {g : Nat → List Nat} {t0 t1 st : Int} {v : Value} {f : ByteArray → Option Value} (h : Bk w B rb kb (A ++ (a, x) :: C) g t0 t1 st v f) :
    Calls Ybaz.prog 23 #[.pointer (some ⟨rb, 0, none⟩), .agg #[.int .u64 (lb x), .int .u8 (ln x)]] w fun e w' => e = .returned (.tuple #[.int .i64 A.length, .bool true]) ∧ Below w.heap.size w w' := by
  have hx : x < 24 := (h.con.bound (a, x) (by simp)).2
  have := ln_range x (by omega)
  exact search_any rb v (Lf (A ++ (a, x) :: C)).length A.length (nth (Lf (A ++ (a, x) :: C))) (lb x) (ln x) true w (by rw [Lf_length]; have := h.len; omega) (ring_of h.ros.own) (fun j hj => ln_of h.con.bound _ (nth_mem _ j hj)) ⟨Int.le_of_lt this.1, this.2⟩ h.up.seekIn (by simp [World.cell?, h.ros.blk])

theorem Up.nodup {E : List (Nat × Nat)} (h : Up E) (a : Nat) : (sel a E).Nodup := by
  unfold sel
  have h1 : (E.filter (fun q => q.1 == a)).Pairwise (fun p q => key p.2 < key q.2) := List.Pairwise.filter _ h
  rw [List.Nodup, List.pairwise_map]
  exact h1.imp (fun hlt e => by rw [e] at hlt; omega)

/-- What admit leaves of the entries. -/
structure Adm (a : Nat) (E E' : List (Nat × Nat)) : Prop where
  sub : E'.Sublist E
  one : ∃ y, (a, y) ∈ E' ∧ ∀ z, (a, z) ∈ E' → z = y
  rest : ∀ b z, b ≠ a → (b, z) ∈ E → (b, z) ∈ E'
/-- .. on the way: keep y; the labels of the list M up to the k-th have been looked at. -/
structure AdmK (a y : Nat) (M : List Nat) (k : Nat) (E E' : List (Nat × Nat)) : Prop where
  sub : E'.Sublist E
  keep : (a, y) ∈ E'
  gone : ∀ z, z ∈ M.take k → z ≠ y → (a, z) ∉ E'
  todo : ∀ z, z ∈ M → z ∉ M.take k → (a, z) ∈ E'
  rest : ∀ b z, b ≠ a → (b, z) ∈ E → (b, z) ∈ E'
theorem AdmK.skip {a y k : Nat} {M : List Nat} {E E' : List (Nat × Nat)} (h : AdmK a y M k E E') (hk : k < M.length) (e : M[k] = y) : AdmK a y M (k + 1) E E' where
  sub := h.sub
  keep := h.keep
  gone := fun z hz hne => by
    rw [List.take_add_one, List.getElem?_eq_getElem hk] at hz
    simp only [Option.toList_some, List.mem_append, List.mem_singleton] at hz
    rcases hz with hz | hz
    · exact h.gone z hz hne
    · exact absurd (hz.trans e) hne
  todo := fun z hz hnz => h.todo z hz (fun hh => hnz (by rw [List.take_add_one]; simp [hh]))
  rest := h.rest
theorem AdmK.drop {a y k x : Nat} {M : List Nat} {E A C : List (Nat × Nat)} (h : AdmK a y M k E (A ++ (a, x) :: C)) (hA : ∀ b, (b, x) ∉ A) (hC : ∀ b, (b, x) ∉ C) (hk : k < M.length) (e : M[k] = x) (hne : x ≠ y) : AdmK a y M (k + 1) E (A ++ C) where
  sub := (List.Sublist.append_left (List.sublist_cons_self _ _) _).trans h.sub
  keep := by
    have := h.keep
    simp only [List.mem_append, List.mem_cons, Prod.mk.injEq, true_and] at this ⊢
    rcases this with q | q | q
    · exact .inl q
    · exact absurd q.symm hne
    · exact .inr q
  gone := fun z hz hzy => by
    rw [List.take_add_one, List.getElem?_eq_getElem hk] at hz
    simp only [Option.toList_some, List.mem_append, List.mem_singleton] at hz
    rcases hz with hz | hz
    · have := h.gone z hz hzy
      simp only [List.mem_append, List.mem_cons, not_or] at this ⊢
      exact ⟨this.1, this.2.2⟩
    · rw [hz, e]
      simp only [List.mem_append, not_or]
      exact ⟨hA a, hC a⟩
  todo := fun z hz hnz => by
    rw [List.take_add_one, List.getElem?_eq_getElem hk] at hnz
    simp only [Option.toList_some, List.mem_append, List.mem_singleton, not_or] at hnz
    have := h.todo z hz hnz.1
    simp only [List.mem_append, List.mem_cons, Prod.mk.injEq, true_and] at this ⊢
    rcases this with q | q | q
    · exact .inl q
    · exact absurd (q.trans e.symm) hnz.2
    · exact .inr q
  rest := fun b z hb hz => by
    have := h.rest b z hb hz
    simp only [List.mem_append, List.mem_cons, Prod.mk.injEq] at this ⊢
    rcases this with q | q | q
    · exact .inl q
    · exact absurd q.1 hb
    · exact .inr q

set_option maxRecDepth 100000 in
set_option maxHeartbeats 2000000 in
theorem admit_bk {w : World} {B rb kb : Nat} {E : List (Nat × Nat)} {g : Nat → List Nat} {t0 t1 st : Int} {v : Value} {f : ByteArray → Option Value} (h : Bk w B rb kb E g t0 t1 st v f) (a : Nat) (ha0 : 0 < a) (ha6 : a < 6) (hne : g a ≠ []) :
    Calls Ybaz.prog 42 #[.pointer (some ⟨rb, 0, none⟩), .string (nm a)] w fun e w' => ∃ r, e = .returned (.int .i64 r) ∧ ∃ E' g' v' f', Bk w' B rb kb E' g' t0 t1 st v' f' ∧ Step rb kb w v f w' v' f' ∧ Adm a E E' := by
  have hG : Gf g (nm a) = (g a).map lbl := Gf_nm g ha0 ha6
  have hrow := h.ros.rows (nm a)
  rw [hG] at hrow
  have hpos : 0 < ((g a).map lbl).length := by rw [List.length_map]; exact List.length_pos_iff.2 hne
  obtain ⟨v0, hf⟩ : ∃ v0, f (nm a) = some v0 := by
    have := h.ros.keys (nm a)
    rw [hG] at this
    have hg : ((g a).map lbl).isEmpty = false := by cases hh : g a <;> simp_all
    rw [hg] at this
    exact Option.isSome_iff_exists.1 this
  rw [hf] at hrow
  have hrow0 : w.ownsRow B 28 2 v0 ((g a).map lbl).length (flat2 ((g a).map lbl)) := hrow
  obtain ⟨g0, c0, rfl, hBg, hg0⟩ := hrow0.form hpos
  have hgl : (g a).length ≤ 400 := by have := h.con.glen ha0 ha6; have := h.len; omega
  have hlook : (Instr.lookup 63 (.map (some kb)) (.string (nm a)) false).run Ybaz.prog w = .ok (.slice (some ⟨g0, 0, none⟩) (g a).length c0) w := by
    have := look63 h.ros.map (nm a) (nm_size a)
    rw [hf] at this
    simpa using this
  have hM24 : ∀ x ∈ g a, x < 24 := fun x hx => (h.con.bound (a, x) ((h.con.gmem ha0 ha6).1 hx)).2
  have hnd : (g a).Nodup := (h.con.perm a ha0 ha6).nodup_iff.2 (h.up.nodup a)
  have hmemE : ∀ z, z ∈ g a → (a, z) ∈ E := fun z hz => (h.con.gmem ha0 ha6).1 hz
  have hEmem : ∀ z, (a, z) ∈ E → z ∈ g a := fun z hz => (h.con.gmem ha0 ha6).2 hz
  have HB : Hid (Bk w B rb kb E g t0 t1 st v f) := h
  have c1 : w.cell? ⟨rb, 1, none⟩ = some (.map (some kb)) := by simp [World.cell?, h.ros.blk]
  have hz1 : (((g a).length : Int) == 0) = false := by have := List.length_pos_iff.2 hne; simp; omega
  have hrowM : w.ownsRow B 28 2 (.slice (some ⟨g0, 0, none⟩) (g a).length c0) (g a).length (flat2 ((g a).map lbl)) := by simpa using hrow0
  have HRow : Hid (w.ownsRow B 28 2 (.slice (some ⟨g0, 0, none⟩) (g a).length c0) (g a).length (flat2 ((g a).map lbl))) := hrowM
  have HM : Hid (Calls Ybaz.prog 56 #[.slice (some ⟨g0, 0, none⟩) (g a).length c0, .func (.func 57) #[] #[]] w fun e w' => ∃ y, y ∈ g a ∧ e = .returned (.agg #[.int .u64 (lb y), .int .u8 (ln y)]) ∧ Below w.heap.size w w') :=
    minFunc g0 c0 (g a) w hM24 (List.length_pos_iff.2 hne) (by omega) hg0 (by have := row2_of hrow0; rwa [List.length_map] at this)
  have hrbl : rb < w.heap.size := World.block_lt_of_cell? _ _ c1
  clear h hrow hrow0 hrowM hf
  have HM24 : Hid (∀ x ∈ g a, x < 24) := hM24
  have HEmem : Hid (∀ z, (a, z) ∈ E → z ∈ g a) := hEmem
  have HmemE : Hid (∀ z, z ∈ g a → (a, z) ∈ E) := hmemE
  clear hM24 hEmem hmemE
  have HND : Hid (g a).Nodup := hnd
  clear hnd hG
  have hpos1 : 0 < (g a).length := List.length_pos_iff.2 hne
  clear hpos
  go_enter Ybaz.func42, Ybaz.ntmps42
  go_wp2_with (first
    | (go_at_call 56; refine HM.out.mono ?_; rintro e w1 ⟨y, hy, rfl, hb1⟩
       have HC : Hid (∀ o, Calls Ybaz.prog 58 #[.slice (some ⟨g0, 0, none⟩) (g a).length c0] (w1.alloc o) fun e w' => ∃ g' c', e = .returned (.slice (some ⟨g', 0, none⟩) (g a).length c') ∧ w'.ownsRow (w1.alloc o).heap.size 28 2 (.slice (some ⟨g', 0, none⟩) (g a).length c') (g a).length (flat2 ((g a).map lbl)) ∧ Below (w1.alloc o).heap.size (w1.alloc o) w') := fun o => by
         have hx := ownsRow_block HRow.out (fun q hq => (hb1.trans ((Below.refl _ w1).alloc hb1.size o)).block q (HRow.out.lt q hq).2)
         have := clone58 B g0 c0 ((g a).map lbl) (w1.alloc o) (by rw [List.length_map]; exact hpos1) (by rw [List.length_map]; omega) (by rw [List.length_map]; exact hx)
         rwa [List.length_map] at this)
    | (go_at_call 58; refine (HC.out _).mono ?_; rintro e w2 ⟨gc, cc, rfl, hown2, hb2⟩))
  have hsz2 : w1.heap.size + 1 ≤ w2.heap.size := by have := hb2.size; simpa using this
  have hszw := hb1.size
  have hB2 : Below w.heap.size w w2 := (hb1.trans ((Below.refl _ w1).alloc hb1.size _)).trans (hb2.mono (by simp; omega))
  have HB2 : Hid (Bk w2 B rb kb E g t0 t1 st v f) := HB.out.later hB2
  have hkbl : kb < w.heap.size := HB.out.ros.map.lt
  have HOwn : Hid (∀ j, Own v f j → j < w.heap.size) := fun j hj => (Ros.own_lt HB.out.ros hj).2
  have hgc : w1.heap.size + 1 ≤ gc ∧ gc < w2.heap.size := by have := hown2.lt gc rfl; simpa using this
  have hbxc : w2.heap[w1.heap.size]? = some (.cells #[.int .u64 (lb y), .int .u8 (ln y)] 28 (0, 0)) := (hb2.block _ (by simp)).trans (heap_alloc_new _ _)
  have hrowc : ∀ k (hk : k < (g a).length), w2.cell? ⟨gc, k * 2, none⟩ = some (.int .u64 (lb (g a)[k])) ∧ w2.cell? ⟨gc, k * 2 + 1, none⟩ = some (.int .u8 (ln (g a)[k])) := fun k hk => by
    have h2 := flat2_at ((g a).map lbl) k (by rw [List.length_map]; exact hk)
    rw [nth2_lbl _ k hk] at h2
    exact ⟨(hown2.cellAt _ (by omega)).trans h2.1, (hown2.cellAt _ (by omega)).trans h2.2⟩
  have HRc : Hid (∀ k (hk : k < (g a).length), w2.cell? ⟨gc, k * 2, none⟩ = some (.int .u64 (lb (g a)[k])) ∧ w2.cell? ⟨gc, k * 2 + 1, none⟩ = some (.int .u8 (ln (g a)[k]))) := hrowc
  clear hrowc hown2 hb2 HC HM hlook HRow
  go_loopw [45, 11, 12, 13] (fun i _ _ _ wr => ∃ k E' g' v' f', k ≤ (g a).length ∧ i = .int .i64 (k : Nat) ∧ Hid (Bk wr B rb kb E' g' t0 t1 st v' f') ∧ Hid (Step rb kb w2 v f wr v' f') ∧ Hid (AdmK a y (g a) k E E')) (fun i _ _ _ _ => (g a).length - (intOf i).toNat)
  case atStart => exact ⟨0, E, g, v, f, Nat.zero_le _, rfl, HB2.out, Step.refl _ _ _ _ _, ⟨List.Sublist.refl _, HmemE.out y hy, by simp, fun z hz _ => HmemE.out z hz, fun b z _ hz => hz⟩⟩
  case round =>
    obtain ⟨k, E', g', v', f', hk, rfl, hBk, hS, hAd⟩ := hrel
    have hszr : w2.heap.size ≤ wr.heap.size := hS.out.turned.size
    have kb0 : wr.heap[w1.heap.size]? = some (.cells #[.int .u64 (lb y), .int .u8 (ln y)] 28 (0, 0)) := (hS.out.keeps (by omega) (by omega) (by omega) (fun e => by have := HOwn.out _ e; omega)).trans hbxc
    have m0 : wr.cell? ⟨w1.heap.size, 0, none⟩ = some (.int .u64 (lb y)) := by simp [World.cell?, kb0]
    have m1 : wr.cell? ⟨w1.heap.size, 1, none⟩ = some (.int .u8 (ln y)) := by simp [World.cell?, kb0]
    have m0a : ∀ o, (wr.alloc o).cell? ⟨w1.heap.size, 0, none⟩ = some (.int .u64 (lb y)) := fun o => by rw [World.cell?_alloc_past _ _ _ (by show w1.heap.size < _; omega)]; exact m0
    have m1a : ∀ o, (wr.alloc o).cell? ⟨w1.heap.size, 1, none⟩ = some (.int .u8 (ln y)) := fun o => by rw [World.cell?_alloc_past _ _ _ (by show w1.heap.size < _; omega)]; exact m1
    by_cases hkr : k < (g a).length
    · have hgk : wr.heap[gc]? = w2.heap[gc]? := hS.out.keeps (by omega) (by omega) (by omega) (fun e => by have := HOwn.out _ e; omega)
      have a0 := (World.cell?_of_block (a := ⟨gc, k * 2, none⟩) hgk).trans (HRc.out k hkr).1
      have a1 := (World.cell?_of_block (a := ⟨gc, k * 2 + 1, none⟩) hgk).trans (HRc.out k hkr).2
      clear hgk kb0
      have hzm : (g a)[k] ∈ g a := List.getElem_mem _
      have hz24 := HM24.out _ hzm
      have hy24 := HM24.out _ hy
      have HK : Hid (∀ z, z = (g a)[k] → (z = y → AdmK a y (g a) (k + 1) E E') ∧ (z ≠ y → ∃ A C, E' = A ++ (a, z) :: C ∧ AdmK a y (g a) (k + 1) E (A ++ C))) := by
        rintro z rfl
        refine ⟨fun e => hAd.out.skip hkr e, fun e => ?_⟩
        have hnt : (g a)[k] ∉ (g a).take k := by
          intro hmem
          obtain ⟨j, hj, hje⟩ := List.getElem_of_mem hmem
          rw [List.length_take] at hj
          rw [List.getElem_take] at hje
          exact absurd ((List.getElem_inj HND.out).1 hje) (by omega)
        obtain ⟨A, C, hE⟩ := List.append_of_mem (hAd.out.todo _ hzm hnt)
        have hfr : (∀ b, (b, (g a)[k]) ∉ A) ∧ (∀ b, (b, (g a)[k]) ∉ C) := by
          have hu := hBk.out.up
          rw [hE] at hu
          exact hu.fresh
        refine ⟨A, C, hE, ?_⟩
        have hAd' := hAd.out
        rw [hE] at hAd'
        exact hAd'.drop hfr.1 hfr.2 hkr rfl e
      have HK' := HK.out _ rfl
      clear HK
      generalize (g a)[k] = z at a0 a1 hzm hz24 HK'
      have j1 : (k : Int) < ((g a).length : Int) := by omega
      by_cases hzy : z = y
      · subst hzy
        have HA := HK'.1 rfl
        have HA' : Hid (AdmK a z (g a) (k + 1) E E') := HA
        clear HK' HA
        go_wp2
        go_roundw
        case rel => exact ⟨k + 1, E', g', v', f', by omega, by go_num, hBk.out.later ((Below.refl _ _).alloc (Nat.le_refl _) _), hS.out.trans (Step.of_below ((Below.refl _ _).alloc (Nat.le_refl _) _)), HA'.out⟩
        case measure => simp [intOf]; omega
      · obtain ⟨A, C, hE, hA⟩ := HK'.2 hzy
        have HA : Hid (AdmK a y (g a) (k + 1) E (A ++ C)) := hA
        have HBE : Bk wr B rb kb (A ++ (a, z) :: C) g' t0 t1 st v' f' := by rw [← hE]; exact hBk.out
        have HS : Hid (∀ wx, Below wr.heap.size wr wx → Calls Ybaz.prog 23 #[.pointer (some ⟨rb, 0, none⟩), .agg #[.int .u64 (lb z), .int .u8 (ln z)]] wx fun e w' => e = .returned (.tuple #[.int .i64 A.length, .bool true]) ∧ Below wx.heap.size wx w') := fun wx hb => search_bk (HBE.later hb)
        have HRm : Hid (∀ wx, Below wr.heap.size wr wx → Calls Ybaz.prog 59 #[.pointer (some ⟨rb, 0, none⟩), .int .i64 A.length] wx fun e w' => e = .returned (.tuple #[]) ∧ ∃ v'' f'', Bk w' B rb kb (A ++ C) (out1 g' a z) t0 t1 st v'' f'' ∧ Step rb kb wx v' f' w' v'' f'') := fun wx hb => remove_bk (HBE.later hb) ha0
        clear HK' HBE hA hE
        have hlne : ¬ (lb z = lb y ∧ ln z = ln y) := fun e => hzy (lbl_inj z hz24 y hy24 (Prod.ext e.1 e.2))
        have hbx : ∀ j, (wr.alloc (.cells #[.int .u64 (lb z), .int .u8 (ln z)] 28)).cell? ⟨wr.heap.size, j, none⟩ = (#[.int .u64 (lb z), .int .u8 (ln z)] : Array Value)[j]? := fun j => by rw [World.cell?_alloc_at _ _ _ _ rfl]
        have hcmp : (lb z ≠ lb y) ∨ (ln z ≠ ln y) := by
          by_cases e : lb z = lb y
          · exact .inr (fun e2 => hlne ⟨e, e2⟩)
          · exact .inl e
        clear hlne
        rcases hcmp with hc | hc
        all_goals (
          go_wp2_with (first
            | (go_at_call 23; refine (HS.out _ ((Below.refl _ _).alloc (Nat.le_refl _) _)).mono ?_; rintro e w3 ⟨rfl, hb3⟩
               have hB3 : Below wr.heap.size wr w3 := ((Below.refl _ wr).alloc (Nat.le_refl _) _).trans (hb3.mono (by simp)))
            | (go_at_call 59; refine (HRm.out _ hB3).mono ?_; rintro e w4 ⟨rfl, v4, f4, hbk4, hS4⟩
               have HB4 : Hid (Bk w4 B rb kb (A ++ C) (out1 g' a z) t0 t1 st v4 f4) := hbk4
               clear hbk4))
          go_roundw
          case rel => exact ⟨k + 1, A ++ C, out1 g' a z, v4, f4, by omega, by go_num, HB4.out, (hS.out.trans (Step.of_below hB3)).trans hS4, HA.out⟩
          case measure => simp [intOf]; omega)
    · obtain ⟨A, C, hE⟩ := List.append_of_mem hAd.out.keep
      have HBE : Bk wr B rb kb (A ++ (a, y) :: C) g' t0 t1 st v' f' := by rw [← hE]; exact hBk.out
      have HS := search_bk HBE
      clear HBE hE
      go_wp2_with (go_at_call 23; refine HS.mono ?_; rintro e w3 ⟨rfl, hb3⟩)
      go_ret
      refine ⟨_, rfl, E', g', v', f', hBk.out.later hb3, ((Step.of_below hB2).trans hS.out).trans (Step.of_below hb3), ⟨hAd.out.sub, ⟨y, hAd.out.keep, fun z hz => ?_⟩, hAd.out.rest⟩⟩
      by_cases e : z = y
      · exact e
      · refine absurd hz (hAd.out.gone z ?_ e)
        rw [List.take_of_length_le (by omega)]
        exact HEmem.out z (hAd.out.sub.subset hz)
end Go.Proofs.YbulkclxkGreat.rep
