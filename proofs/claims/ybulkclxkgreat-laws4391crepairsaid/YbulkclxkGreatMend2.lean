import Derived.Test.YbulkclxkGreatRepair
import Derived.Test.YbulkclxkGreatConfig
import Derived.Test.YbulkclxkGreatWant
import Derived.Test.YbulkclxkGreatTick
namespace Go.Proofs.YbulkclxkGreat.rep
open Go.ChangeShapes Go.WideShapes Go.ChangeAt Go.RowKit
open lab ring maps sup put hold order del srt read
set_option linter.unusedVariables false

theorem nm_diff {a b : Nat} (ha : a < 6) (hb : b < 6) (h : a ≠ b) : ((nm a).toList == (nm b).toList) = false := by
  have h1 : (nm a).toList = (nm a).data.toList := by rw [ByteArray.toList_eq]
  have h2 : (nm b).toList = (nm b).data.toList := by rw [ByteArray.toList_eq]
  rw [h1, h2, beq_eq_false_iff_ne]
  intro e
  refine h (nm_inj a ha b hb ?_)
  have : (nm a).data = (nm b).data := Array.ext' e
  cases hx : nm a; cases hy : nm b
  rw [hx, hy] at this
  exact congrArg ByteArray.mk this

def lftE (E : List (Nat × Nat)) (i : Nat) : Pr := if E.length = 1 then zp else nth (Lf E) ((i + E.length - 1) % E.length)
def rgtE (E : List (Nat × Nat)) (i : Nat) : Pr := if E.length = 1 then zp else nth (Lf E) ((i + 1) % E.length)
def cfgE (E : List (Nat × Nat)) (topic : ByteArray) (start : Int) (i : Nat) (turn : Bool) : Array Value := cfg topic (lftE E i) (nth (Lf E) i).b (nth (Lf E) i).n (rgtE E i) start turn

/-- Names in full: each entry names a subscriber, no two the same. -/
structure Nmd (E : List (Nat × Nat)) : Prop where
  six : ∀ q ∈ E, q.1 < 6
  pos : ∀ q ∈ E, 0 < q.1
  nod : (E.map (·.1)).Nodup
theorem Nmd.named {E : List (Nat × Nat)} (h : Nmd E) {j : Nat} (hj : j < E.length) : (nth (Lf E) j).a.toList.isEmpty = false := by
  rw [nth_Lf E j hj]; exact nm_named _ (h.pos _ (List.getElem_mem _)) (h.six _ (List.getElem_mem _))
theorem Nmd.diff {E : List (Nat × Nat)} (h : Nmd E) {i j : Nat} (hi : i < E.length) (hj : j < E.length) (hne : j ≠ i) : ((nth (Lf E) j).a.toList == (nth (Lf E) i).a.toList) = false := by
  rw [nth_Lf E j hj, nth_Lf E i hi]
  refine nm_diff (h.six _ (List.getElem_mem _)) (h.six _ (List.getElem_mem _)) (fun e => hne ?_)
  have h1 : (E.map (·.1))[j]'(by simpa using hj) = (E.map (·.1))[i]'(by simpa using hi) := by simpa using e
  exact (List.getElem_inj h.nod).1 h1

theorem cfg_ros {w : World} {B rb kb n : Nat} {E : List (Nat × Nat)} {G : ByteArray → List (Int × Int)} {t0 t1 st : Int} {v : Value} {f : ByteArray → Option Value} (hr : Ros w B rb kb (Lf E) n G t0 t1 st v f) (hN : Nmd E) (h4 : E.length ≤ 400) (topic : ByteArray) (turn : Bool) (i : Nat) (hi : i < E.length) :
    Calls Ybaz.prog 22 #[.pointer (some ⟨rb, 0, none⟩), .string topic, .int .i64 i, .bool turn] w fun e w' => e = .returned (.agg #[.string (nth (Lf E) i).a, .iface 41 (.agg (cfgE E topic st i turn))]) ∧ Below w.heap.size w w' := by
  obtain ⟨g, c, rfl, _, _⟩ := hr.own.form (by rw [Lf_length]; omega)
  have hL := Lf_length E
  refine config_any rb g c (Lf E).length i (nth (Lf E)) (lftE E i) (rgtE E i) topic st turn w (by simp [World.cell?, hr.blk]) (by simp [World.cell?, hr.blk]) (by omega) (by omega) (row_of hr.own) (fun wy hb => ?_) (fun wy hb => ?_)
  · have hx := hr.later hb
    have hc : wy.cell? ⟨rb, 0, none⟩ = some (.slice (some ⟨g, 0, none⟩) (Lf E).length c) := by simp [World.cell?, hx.blk]
    by_cases h1 : E.length = 1
    · obtain rfl : i = 0 := by omega
      rw [hL, h1] at hc
      rw [lftE, if_pos h1]
      exact neigh_one rb g c (-1) (.inl rfl) wy hc
    · rw [lftE, if_neg h1]
      have hj : (i + E.length - 1) % E.length < E.length := Nat.mod_lt _ (by omega)
      have hne : (i + E.length - 1) % E.length ≠ i := by
        rcases Nat.eq_zero_or_pos i with rfl | hp
        · rw [Nat.zero_add, Nat.mod_eq_of_lt (by omega)]; omega
        · rw [show i + E.length - 1 = (i - 1) + E.length by omega, Nat.add_mod_right, Nat.mod_eq_of_lt (by omega)]; omega
      exact neigh_many rb g c (Lf E).length i ((i + E.length - 1) % E.length) (nth (Lf E)) (-1) (.inl rfl) wy hc (by omega) (by omega) (by omega) (by omega) hne
        (by rw [hL, Int.tmod_eq_emod_of_nonneg (by omega), show (i : Int) + -1 + E.length = ((i + E.length - 1 : Nat) : Int) by omega]; rfl) (row_of hx.own) (hN.named hj) (hN.diff hi hj hne)
  · have hx := hr.later hb
    have hc : wy.cell? ⟨rb, 0, none⟩ = some (.slice (some ⟨g, 0, none⟩) (Lf E).length c) := by simp [World.cell?, hx.blk]
    by_cases h1 : E.length = 1
    · obtain rfl : i = 0 := by omega
      rw [hL, h1] at hc
      rw [rgtE, if_pos h1]
      exact neigh_one rb g c 1 (.inr rfl) wy hc
    · rw [rgtE, if_neg h1]
      have hj : (i + 1) % E.length < E.length := Nat.mod_lt _ (by omega)
      have hne : (i + 1) % E.length ≠ i := by
        rcases Nat.lt_or_ge (i + 1) E.length with hp | hp
        · rw [Nat.mod_eq_of_lt hp]; omega
        · rw [show i + 1 = E.length by omega, Nat.mod_self]; omega
      exact neigh_many rb g c (Lf E).length i ((i + 1) % E.length) (nth (Lf E)) 1 (.inr rfl) wy hc (by omega) (by omega) (by omega) (by omega) hne
        (by rw [hL, Int.tmod_eq_emod_of_nonneg (by omega), show (i : Int) + 1 + E.length = ((i + 1 + E.length : Nat) : Int) by omega, ← Nat.add_mod_right (i + 1) E.length]; rfl) (row_of hx.own) (hN.named hj) (hN.diff hi hj hne)

theorem want_any (g c i : Nat) (E : List (Nat × Nat)) (topic : ByteArray) (start : Int) (turn : Bool) (w : World) (h4 : E.length ≤ 400) (hi : i < E.length) (hP : Row w g E.length (nth (Lf E))) :
    Calls Ybaz.prog 11 #[.slice (some ⟨g, 0, none⟩) E.length c, .int .i64 i, .string topic, .int .u64 start, .bool turn] w fun e w' => e = .returned (.agg (cfgE E topic start i turn)) ∧ Below w.heap.size w w' := by
  by_cases h1 : E.length = 1
  · obtain rfl : i = 0 := by omega
    rw [cfgE, lftE, rgtE, if_pos h1, if_pos h1]
    rw [h1] at hP ⊢
    exact want_one g c (nth (Lf E)) topic start turn w hP
  · rw [cfgE, lftE, rgtE, if_neg h1, if_neg h1]
    exact want_many g c E.length i _ _ (nth (Lf E)) topic start turn w (by omega) (by omega) hi rfl rfl hP

def env (E : List (Nat × Nat)) (topic : ByteArray) (start : Int) (i : Nat) (turn : Bool) : List Value := [.string (nth (Lf E) i).a, .iface 41 (.agg (cfgE E topic start i turn))]
def envs (E : List (Nat × Nat)) (topic : ByteArray) (start : Int) (O : List Nat) : List Value := O.flatMap (fun i => env E topic start i false)
theorem envs_append (E : List (Nat × Nat)) (topic : ByteArray) (start : Int) (A C : List Nat) : envs E topic start (A ++ C) = envs E topic start A ++ envs E topic start C := by simp [envs]
theorem Rep.nmd {E E' : List (Nat × Nat)} {g : Nat → List Nat} (h : Rep E E') (hc : Con0 E' g) : Nmd E' := ⟨fun q hq => (hc.bound q hq).1, h.pos, h.nod⟩

set_option maxRecDepth 100000 in
set_option maxHeartbeats 4000000 in
theorem mend_bk {w : World} {B rb kb : Nat} {E : List (Nat × Nat)} {g : Nat → List Nat} {t0 t1 st : Int} {v : Value} {f : ByteArray → Option Value} (h : Bk w B rb kb E g t0 t1 st v f) (topic : ByteArray) :
    Calls Ybaz.prog 20 #[.pointer (some ⟨rb, 0, none⟩), .string topic] w fun e w' => ∃ ov O E' g' v' f', e = .returned ov ∧ Bk w' B rb kb E' g' t0 t1 st v' f' ∧ Step rb kb w v f w' v' f' ∧ Rep E E' ∧
      w'.ownsRow w.heap.size 39 2 ov O.length (envs E' topic st O) ∧ (∀ j, ov.ownBlock = some j → ¬ Own v' f' j) ∧ (∀ i ∈ O, i < E'.length) ∧ O.length ≤ 1000 := by
  have HR29 : Hid (Calls Ybaz.prog 29 #[.pointer (some ⟨rb, 0, none⟩)] w fun e w' => ∃ mv Mv E' g' v' f', e = .returned mv ∧ Bk w' B rb kb E' g' t0 t1 st v' f' ∧ Step rb kb w v f w' v' f' ∧ Rep E E' ∧
      w'.ownsRow w.heap.size 31 3 mv Mv.length (flat (Lf Mv)) ∧ (∀ j, mv.ownBlock = some j → ¬ Own v' f' j) ∧ (∀ q ∈ Mv, q.2 < E'.length) ∧ Mv.length ≤ 1000) := repair_bk h
  obtain ⟨i0, hi0, hz0, hzs, hzb⟩ := info_parts tick.info39
  clear h
  go_enter Ybaz.func20, Ybaz.ntmps20
  go_wp2_with (first
    | (go_at_call 29; refine HR29.out.mono ?_; rintro e w1 ⟨mv, Mv, E', g', v', f', rfl, hb1, hs1, hr1, ho1, hp1, hx1, hl1⟩
       have HB1 : Hid (Bk w1 B rb kb E' g' t0 t1 st v' f') := hb1
       have HS1 : Hid (Step rb kb w v f w1 v' f') := hs1
       have HR1 : Hid (Rep E E') := hr1
       have HO1 : Hid (w1.ownsRow w.heap.size 31 3 mv Mv.length (flat (Lf Mv))) := ho1
       have HX1 : Hid (∀ q ∈ Mv, q.2 < E'.length) := hx1
       have hform : ∃ ao c, mv = .slice ao Mv.length c := by
         obtain ⟨_, ⟨e, e2⟩ | ⟨g, c, _, e, _⟩⟩ := ho1
         · exact ⟨none, 0, by rw [e, e2]⟩
         · exact ⟨_, c, e⟩
       obtain ⟨ao, cm, rfl⟩ := hform
       have hw1 : w.heap.size ≤ w1.heap.size := hs1.turned.size
       clear hb1 hs1 hr1 ho1 hp1 hx1))
  clear HR29
  go_loopw [5, 7, 8, 9, 13] (fun o _ _ _ i wr => ∃ (k : Nat) (O : List Nat), k ≤ Mv.length ∧ i = .int .i64 k ∧ O.length = k ∧ Hid (∀ i ∈ O, i < E'.length) ∧ Below w1.heap.size w1 wr ∧ Hid (wr.ownsRow w1.heap.size 39 2 o O.length (envs E' topic st O))) (fun _ _ _ _ i _ => Mv.length - (intOf i).toNat)
  case atStart => exact ⟨0, [], Nat.zero_le _, rfl, rfl, fun i hi => by simp at hi, Below.refl _ _, ⟨rfl, .inl ⟨rfl, rfl⟩⟩⟩
  case round =>
    obtain ⟨k, O, hk, rfl, hOk0, hOi, hB, hOw⟩ := hrel
    have hOk : Hid (O.length = k) := hOk0
    have hOl : O.length ≤ 1000 := by omega
    clear hOk0
    by_cases hkr : k < Mv.length
    · obtain ⟨gm, cm', hme, hgm1, hgm2⟩ := HO1.out.form (by omega)
      obtain ⟨rfl, rfl⟩ : ao = some ⟨gm, 0, none⟩ ∧ cm = cm' := by
        simp only [Value.slice.injEq] at hme
        exact ⟨hme.1, hme.2.2⟩
      clear hme
      have fk := flat_at (Lf Mv) k (by rw [Lf_length]; exact hkr)
      rw [nth_Lf _ k hkr] at fk
      have a0 := (hB.cell (p := ⟨gm, k * 3, none⟩) hgm2).trans ((HO1.out.cellAt _ (by omega)).trans fk.1)
      have a1 := (hB.cell (p := ⟨gm, k * 3 + 1, none⟩) hgm2).trans ((HO1.out.cellAt _ (by omega)).trans fk.2.1)
      have a2 := (hB.cell (p := ⟨gm, k * 3 + 2, none⟩) hgm2).trans ((HO1.out.cellAt _ (by omega)).trans fk.2.2)
      have hx := HX1.out _ (List.getElem_mem hkr)
      have hmem : Mv[k].2 ∈ E'.map (·.2) := HR1.out.lab.mem_iff.2 (List.mem_range.2 hx)
      obtain ⟨⟨a, x⟩, hq, hqe⟩ := List.mem_map.1 hmem
      simp only at hqe
      have hent : ent Mv[k] = ⟨nm Mv[k].1, lb x, ln x⟩ := by rw [ent, hqe]
      rw [hent] at a0 a1 a2
      clear hent fk hmem hx hqe
      generalize nm Mv[k].1 = na at a0 a1 a2
      simp only at a0 a1 a2
      obtain ⟨A, C, hE⟩ := List.append_of_mem hq
      have hAl : A.length < E'.length := by rw [hE]; simp
      have hBr : Bk wr B rb kb E' g' t0 t1 st v' f' := HB1.out.later hB
      have HBr : Hid (Bk wr B rb kb E' g' t0 t1 st v' f') := hBr
      have HS23 : Hid (∀ wx, Below wr.heap.size wr wx → Calls Ybaz.prog 23 #[.pointer (some ⟨rb, 0, none⟩), .agg #[.int .u64 (lb x), .int .u8 (ln x)]] wx fun e w' => e = .returned (.tuple #[.int .i64 A.length, .bool true]) ∧ Below wx.heap.size wx w') := fun wx hb => by
        have hh := hBr.later hb
        rw [hE] at hh
        exact search_bk hh
      have HC22 : Hid (∀ wx, Below wr.heap.size wr wx → Calls Ybaz.prog 22 #[.pointer (some ⟨rb, 0, none⟩), .string topic, .int .i64 A.length, .bool false] wx fun e w' => e = .returned (.agg #[.string (nth (Lf E') A.length).a, .iface 41 (.agg (cfgE E' topic st A.length false))]) ∧ Below wx.heap.size wx w') := fun wx hb =>
        cfg_ros (hBr.later hb).ros (HR1.out.nmd hBr.con) hBr.len topic false A.length hAl
      clear hE hq hBr
      have i1 : (k : Int) < (Mv.length : Int) := by omega
      generalize A.length = ip at *
      have HEn : Hid (env E' topic st ip false = [.string (nth (Lf E') ip).a, .iface 41 (.agg (cfgE E' topic st ip false))]) := rfl
      generalize (nth (Lf E') ip).a = an at *
      generalize cfgE E' topic st ip false = cf at *
      have hszr := hB.size
      go_wp2_with (first
        | (go_at_call 23; refine (HS23.out _ ((Below.refl _ _).alloc (Nat.le_refl _) _)).mono ?_; rintro e w2 ⟨rfl, hb2⟩
           have hB2 : Below wr.heap.size wr w2 := ((Below.refl _ wr).alloc (Nat.le_refl _) _).trans (hb2.mono (by simp)))
        | (go_at_call 22; refine (HC22.out _ hB2).mono ?_; rintro e w3 ⟨rfl, hb3⟩
           have hB3 : Below wr.heap.size wr w3 := hB2.trans (hb3.mono hB2.size)
           have HO3 : Hid (w3.ownsRow w1.heap.size 39 2 u5 O.length (envs E' topic st O)) := ownsRow_block hOw.out (fun q hq => hB3.block q (hOw.out.lt q hq).2)
           have hsz3 : w1.heap.size ≤ w3.heap.size := by have := hB3.size; omega)
        | (at_builtin; refine wpList_append_lies _ rfl (.tmp 24) (.tmp 29) 34 rfl w1.heap.size 39 i0 _ 2 32 Ybaz.underlying34 hi0 hz0 hzs hzb rfl (by decide) u5 O.length (envs E' topic st O) rfl (HO3.out.alloc _) ⟨w3.heap.size, 0, none⟩ 1 1 [.string an, .iface 41 (.agg cf)] rfl rfl (World.news_of_block (cs := #[.string an, .iface 41 (.agg cf)]) (t := 39) (fr := (0, 0)) (heap_alloc_new _ _)) (by simp [Value.oneCell']) (by omega) (by unfold maxLen; omega) (by omega) (by simp; omega) (w3.heap.size + 1) (by simp) ?_; intro go cgo w4 hown4 hgrow4 hat4 hlt4))
      go_roundw
      case rel =>
        have hn4 : ∀ q, u5.ownBlock = some q → w1.heap.size ≤ q := fun q hq => (hOw.out.lt q hq).1
        refine ⟨k + 1, O ++ [ip], by omega, by go_num, by rw [List.length_append, hOk.out]; rfl, ?_, ?_, ?_⟩
        · intro j hj
          rcases List.mem_append.1 hj with hj | hj
          · exact hOi.out j hj
          · rw [List.mem_singleton.1 hj]; exact hAl
        · refine ⟨hgrow4.os.trans (hB3.os.trans hB.os), hgrow4.tape.trans (hB3.tape.trans hB.tape), hgrow4.output.trans (hB3.output.trans hB.output), by have := hgrow4.size; simp at this; omega, fun q hq => ?_⟩
          exact ((hgrow4.block q (by simp; omega) (fun e => by have := hn4 q e.symm; omega)).trans (Below.heap_alloc _ _ _ (by omega))).trans ((hB3.block q (by omega)).trans (hB.block q hq))
        · have e1 : envs E' topic st (O ++ [ip]) = envs E' topic st O ++ [.string an, .iface 41 (.agg cf)] := by rw [envs_append]; simp [envs, HEn.out]
          rw [e1, List.length_append]
          exact hown4
      case measure => simp [intOf]; omega
    · go_wp2
      go_ret
      refine ⟨_, O, E', g', v', f', rfl, HB1.out.later hB, Step.then_below HS1.out (hB.mono hw1), HR1.out, ?_, fun j hj hs => ?_, hOi.out, hOl⟩
      · obtain ⟨hl, h | ⟨g9, c9, cur, e1, e2, e3⟩⟩ := hOw.out
        · exact ⟨hl, .inl h⟩
        · exact ⟨hl, .inr ⟨g9, c9, cur, e1, by omega, e3⟩⟩
      · have h1 := (hOw.out.lt j hj).1
        have h2 := (Ros.own_lt HB1.out.ros hs).2
        omega
end Go.Proofs.YbulkclxkGreat.rep
