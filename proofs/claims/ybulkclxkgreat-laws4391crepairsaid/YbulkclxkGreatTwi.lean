import Derived.Test.YbulkclxkGreatDel41
import Derived.Test.YbulkclxkGreatBk
import Derived.Test.YbulkclxkGreatAdmit
namespace Go.Proofs.YbulkclxkGreat.rep
open Go.ChangeShapes Go.WideShapes Go.ChangeAt Go.RowKit
open lab ring maps sup put hold order del read
set_option linter.unusedVariables false

set_option maxRecDepth 100000 in
set_option maxHeartbeats 400000 in
theorem closure45 (p : Pr) (bx : Nat) (s : ByteArray) (w : World) (h : w.cell? ⟨bx, 0, none⟩ = some (.string s)) :
    Calls Ybaz.prog 45 #[.agg #[.string p.a, .int .u64 p.b, .int .u8 p.n], .pointer (some ⟨bx, 0, none⟩)] w fun e w' => (∃ b, e = .returned (.bool b)) ∧ Below w.heap.size w w' := by
  have hb : bx < w.heap.size := World.block_lt_of_cell? _ _ h
  go_enter Ybaz.func45, Ybaz.ntmps45
  go_wp2
  all_goals (go_ret; exact ⟨⟨_, rfl⟩, (Below.refl _ w).alloc (Nat.le_refl _) _⟩)

set_option maxRecDepth 100000 in
set_option maxHeartbeats 1000000 in
theorem index54b (g c m bx : Nat) (P : Nat → Pr) (s : ByteArray) (w : World) (hm : m ≤ 1000) (hg : g < w.heap.size) (hP : Row w g m P) (h : w.cell? ⟨bx, 0, none⟩ = some (.string s)) :
    Calls Ybaz.prog 54 #[.slice (some ⟨g, 0, none⟩) m c, .func (.func 45) #[] #[.pointer (some ⟨bx, 0, none⟩)]] w fun e w' => (∃ r : Int, e = .returned (.int .i64 r)) ∧ Below w.heap.size w w' := by
  have HP : Hid (Row w g m P) := hP
  have hb : bx < w.heap.size := World.block_lt_of_cell? _ _ h
  clear hP
  go_enter Ybaz.func54, Ybaz.ntmps54
  go_wp2
  go_loopw [5, 8] (fun _ i wr => ∃ k : Nat, k ≤ m ∧ i = .int .i64 k ∧ Below w.heap.size w wr) (fun _ i _ => m - (intOf i).toNat)
  case atStart => exact ⟨0, Nat.zero_le _, rfl, Below.refl _ _⟩
  case round =>
    obtain ⟨k, hk, rfl, hB⟩ := hrel
    by_cases hkr : k < m
    · obtain ⟨a0, a1, a2⟩ := (HP.out.later hB hg) k hkr
      have i1 : (k : Int) < (m : Int) := by omega
      have HC := closure45 (P k) bx s wr ((hB.cell (p := ⟨bx, 0, none⟩) hb).trans h)
      go_wp2_with (go_at_call 45; refine HC.mono ?_; rintro e w' ⟨⟨b, rfl⟩, hb2⟩)
      · go_ret
        exact ⟨⟨_, rfl⟩, hB.trans (hb2.mono hB.size)⟩
      · refine ⟨⟨k + 1, by omega, by go_num, hB.trans (hb2.mono hB.size)⟩, by simp [intOf]; omega⟩
    · go_wp2
      go_ret
      exact ⟨⟨_, rfl⟩, hB⟩

set_option maxRecDepth 100000 in
theorem index54c (ao : Option Addr) (c bx : Nat) (w : World) :
    Calls Ybaz.prog 54 #[.slice ao 0 c, .func (.func 45) #[] #[.pointer (some ⟨bx, 0, none⟩)]] w fun e w' => (∃ r : Int, e = .returned (.int .i64 r)) ∧ Below w.heap.size w w' := by
  go_enter Ybaz.func54, Ybaz.ntmps54
  go_wp2
  refine wp_loop_rounds 1 ?_
  rw [rounds_succ]
  go_wp2
  go_ret
  exact ⟨⟨_, rfl⟩, Below.refl _ _⟩

set_option maxRecDepth 100000 in
theorem contains44 (B bx : Nat) (v : Value) (L : List Pr) (s : ByteArray) (w : World) (hm : L.length ≤ 1000) (hown : w.ownsRow B 31 3 v L.length (flat L)) (h : w.cell? ⟨bx, 0, none⟩ = some (.string s)) :
    Calls Ybaz.prog 44 #[v, .func (.func 45) #[] #[.pointer (some ⟨bx, 0, none⟩)]] w fun e w' => (∃ b, e = .returned (.bool b)) ∧ Below w.heap.size w w' := by
  have HI : Hid (Calls Ybaz.prog 54 #[v, .func (.func 45) #[] #[.pointer (some ⟨bx, 0, none⟩)]] w fun e w' => (∃ r : Int, e = .returned (.int .i64 r)) ∧ Below w.heap.size w w') := by
    have h0 := hown
    obtain ⟨hl, ⟨rfl, hz⟩ | ⟨g, c, cur, rfl, _⟩⟩ := hown
    · exact index54c none 0 bx w
    · exact index54b g c L.length bx (nth L) s w hm (h0.lt g rfl).2 (row_of h0) h
  clear hown
  go_enter Ybaz.func44, Ybaz.ntmps44
  go_wp2_with (go_at_call 54; refine HI.out.mono ?_; rintro e w1 ⟨⟨r, rfl⟩, hb⟩)
  go_ret
  exact ⟨⟨_, rfl⟩, hb⟩

set_option maxRecDepth 100000 in
set_option maxHeartbeats 1000000 in
/-- relabel at an empty ring. -/
theorem relabel_nil (rb c : Nat) (ao : Option Addr) (w : World) (h0 : w.cell? ⟨rb, 0, none⟩ = some (.slice ao 0 c)) :
    Calls Ybaz.prog 43 #[.pointer (some ⟨rb, 0, none⟩)] w fun e w' => e = .returned (.slice none 0 0) ∧ Below w.heap.size w w' := by
  have hrb : rb < w.heap.size := World.block_lt_of_cell? _ _ h0
  have h0a : ∀ o, (w.alloc o).cell? ⟨rb, 0, none⟩ = some (.slice ao 0 c) := fun o => by rw [World.cell?_alloc_past _ _ _ hrb]; exact h0
  obtain ⟨i0, hi, hz0, hz1, hz2⟩ := info_parts info4
  go_enter Ybaz.func43, Ybaz.ntmps43
  go_wp2_with (first
    | (at_make; refine wpList_make_full _ rfl _ _ 104 rfl (w.heap.size + 1) 4 i0 (.bool false) 1 (by kernel_rfl) hi hz0 hz1 _ _ _ _ 0 rfl rfl (by omega) (by omega) (by rw [hz2]; omega) (by unfold maxLen; omega) (by simp) ?_; intro w0 hown0 hgrow0
       have hB0 : Below w.heap.size w w0 := ((Below.refl _ w).alloc (Nat.le_refl _) _).grown hgrow0 (by simp) (fun k hk => by cases hk)
       have b0 : w0.cell? ⟨w.heap.size, 0, none⟩ = some (.pointer (some ⟨rb, 0, none⟩)) := hgrow0.cell (by rw [World.cell?_alloc_at _ _ _ _ rfl]; rfl) (by simp)
       have b1 : w0.cell? ⟨rb, 0, none⟩ = some (.slice ao 0 c) := (hB0.cell (p := ⟨rb, 0, none⟩) hrb).trans h0))
  refine wp_loop_rounds 1 ?_
  rw [rounds_succ]
  go_wp2
  go_ret
  exact ⟨rfl, hB0⟩

/- repair, in numbers -/
def real (E : List (Nat × Nat)) : List (Nat × Nat) := E.filter (fun q => !(q.1 == 0))
theorem emp_ent {q : Nat × Nat} (h : q.1 < 6) : emp (ent q) = (q.1 == 0) := by
  unfold emp ent
  rcases Nat.eq_zero_or_pos q.1 with e | e
  · rw [e]; exact nm_zero
  · rw [nm_named _ e h]; simp; omega
theorem Lf_real {E : List (Nat × Nat)} (h : ∀ q ∈ E, q.1 < 6 ∧ q.2 < 24) : (Lf E).filter (fun m => !emp m) = Lf (real E) := by
  rw [Lf, Lf, real, List.filter_map]
  congr 1
  refine List.filter_congr (fun q hq => ?_)
  show (!emp (ent q)) = _
  rw [emp_ent (h q hq).1]
theorem sel_real (a : Nat) (E : List (Nat × Nat)) (h0 : 0 < a) : sel a (real E) = sel a E := by
  unfold sel real
  rw [List.filter_filter]
  congr 1
  refine List.filter_congr (fun q _ => ?_)
  by_cases e : q.1 = a
  · simp [e]; omega
  · simp [e]
theorem Con0.real {E : List (Nat × Nat)} {g : Nat → List Nat} (h : Con0 E g) : Con0 (real E) g :=
  ⟨fun q hq => h.bound q (List.mem_filter.1 hq).1, h.zero, fun a h0 h6 => by rw [sel_real a E h0]; exact h.perm a h0 h6⟩
theorem Up.sub {E E' : List (Nat × Nat)} (h : Up E) (hs : E'.Sublist E) : Up E' := List.Pairwise.sublist hs h
theorem real_pos {E : List (Nat × Nat)} : ∀ q ∈ real E, 0 < q.1 := fun q hq => by
  have := (List.mem_filter.1 hq).2
  simp at this; omega

/-- Each name stands once among the entries. -/
def Once (E : List (Nat × Nat)) (a : Nat) : Prop := ∀ y z, (a, y) ∈ E → (a, z) ∈ E → y = z
theorem once_nodup {E : List (Nat × Nat)} (hu : Up E) (h : ∀ a, Once E a) : (E.map (·.1)).Nodup := by
  rw [List.Nodup, List.pairwise_map]
  refine List.Pairwise.imp_of_mem ?_ hu
  rintro ⟨a, y⟩ ⟨b, z⟩ hp hq hlt e
  simp only at e hlt
  subst e
  have := h a y z hp hq
  subst this
  omega
theorem once_of_short {E : List (Nat × Nat)} {g : Nat → List Nat} (h : Con0 E g) {a : Nat} (h0 : 0 < a) (h6 : a < 6) (hl : (g a).length ≤ 1) : Once E a := by
  intro y z hy hz
  have h1 := (h.gmem h0 h6).2 hy
  have h2 := (h.gmem h0 h6).2 hz
  match hg : g a, hl with
  | [], _ => rw [hg] at h1; simp at h1
  | [u], _ => rw [hg] at h1 h2; simp at h1 h2; rw [h1, h2]
theorem sum_sel {E : List (Nat × Nat)} (hp : ∀ q ∈ E, 0 < q.1 ∧ q.1 < 6) : E.length = (sel 1 E).length + (sel 2 E).length + (sel 3 E).length + (sel 4 E).length + (sel 5 E).length := by
  induction E with
  | nil => rfl
  | cons q E ih =>
    have ih := ih (fun r hr => hp r (by simp [hr]))
    obtain ⟨a, x⟩ := q
    have ha := hp (a, x) (by simp)
    rcases five ha.1 ha.2 with rfl | rfl | rfl | rfl | rfl
    all_goals simp [sel] at ih ⊢
    all_goals omega
theorem once_of_cnt {E : List (Nat × Nat)} {g : Nat → List Nat} (h : Con0 E g) (hp : ∀ q ∈ E, 0 < q.1) (hc : ¬ cnt g < E.length) : ∀ a, Once E a := by
  intro a
  have hs := sum_sel (E := E) (fun q hq => ⟨hp q hq, (h.bound q hq).1⟩)
  have e1 := (h.perm 1 (by omega) (by omega)).length_eq
  have e2 := (h.perm 2 (by omega) (by omega)).length_eq
  have e3 := (h.perm 3 (by omega) (by omega)).length_eq
  have e4 := (h.perm 4 (by omega) (by omega)).length_eq
  have e5 := (h.perm 5 (by omega) (by omega)).length_eq
  have hne : ∀ l : List Nat, ne1 l ≤ l.length ∧ (1 < l.length → ne1 l + 1 ≤ l.length) := fun l => by
    cases l with
    | nil => simp [ne1]
    | cons u l => simp [ne1]; omega
  have n1 := hne (g 1); have n2 := hne (g 2); have n3 := hne (g 3); have n4 := hne (g 4); have n5 := hne (g 5)
  unfold cnt at hc
  intro y z hy hz
  have ha0 : 0 < a := hp _ hy
  have ha6 : a < 6 := (h.bound _ hy).1
  refine once_of_short h ha0 ha6 ?_ y z hy hz
  rcases five ha0 ha6 with rfl | rfl | rfl | rfl | rfl <;> omega
theorem names_few {E : List (Nat × Nat)} (hb : ∀ q ∈ E, q.1 < 6) (hn : (E.map (·.1)).Nodup) : E.length ≤ 6 := by
  have hp : (E.map (·.1)).Perm ((List.range 6).filter (fun x => decide (x ∈ E.map (·.1)))) := (List.perm_ext_iff_of_nodup hn (List.nodup_range.filter _)).2 (fun x => by
    simp only [List.mem_filter, List.mem_range, decide_eq_true_eq]
    refine ⟨fun h => ⟨?_, h⟩, fun h => h.2⟩
    obtain ⟨q, hq, rfl⟩ := List.mem_map.1 h
    exact hb q hq)
  have := hp.length_eq
  rw [List.length_map] at this
  rw [this]
  have := List.length_filter_le (fun x => decide (x ∈ E.map (·.1))) (List.range 6)
  rwa [List.length_range] at this

/-- The first part of repair, k entries of E1 looked at. -/
structure Twi (E1 : List (Nat × Nat)) (k : Nat) (E' : List (Nat × Nat)) : Prop where
  sub : E'.Sublist E1
  pres : ∀ a x, (a, x) ∈ E1 → ∃ y, (a, y) ∈ E'
  once : ∀ q ∈ E1.take k, Once E' q.1
theorem Twi.start (E1 : List (Nat × Nat)) : Twi E1 0 E1 := ⟨List.Sublist.refl _, fun a x h => ⟨x, h⟩, fun q hq => by simp at hq⟩
theorem Twi.skip {E1 E' : List (Nat × Nat)} {k : Nat} (h : Twi E1 k E') (hk : k < E1.length) (ho : Once E' E1[k].1) : Twi E1 (k + 1) E' :=
  ⟨h.sub, h.pres, fun q hq => by
    rw [List.take_add_one, List.getElem?_eq_getElem hk] at hq
    simp only [Option.toList_some, List.mem_append, List.mem_singleton] at hq
    rcases hq with hq | rfl
    · exact h.once q hq
    · exact ho⟩
theorem Twi.adm {E1 E' E'' : List (Nat × Nat)} {k : Nat} (h : Twi E1 k E') (hk : k < E1.length) (ha : Adm E1[k].1 E' E'') : Twi E1 (k + 1) E'' :=
  ⟨ha.sub.trans h.sub, fun a x hx => by
    obtain ⟨y, hy⟩ := h.pres a x hx
    by_cases e : a = E1[k].1
    · subst e
      obtain ⟨z, hz, _⟩ := ha.one
      exact ⟨z, hz⟩
    · exact ⟨y, ha.rest a y e hy⟩,
   fun q hq => by
    rw [List.take_add_one, List.getElem?_eq_getElem hk] at hq
    simp only [Option.toList_some, List.mem_append, List.mem_singleton] at hq
    rcases hq with hq | rfl
    · intro y z hy hz
      exact h.once q hq y z (ha.sub.subset hy) (ha.sub.subset hz)
    · obtain ⟨u, _, hu⟩ := ha.one
      intro y z hy hz
      rw [hu y hy, hu z hz]⟩
theorem Twi.end {E1 E' : List (Nat × Nat)} (h : Twi E1 E1.length E') : ∀ a, Once E' a := by
  intro a y z hy hz
  have hm : (a, y) ∈ E1.take E1.length := by rw [List.take_length]; exact h.sub.subset hy
  exact h.once (a, y) hm y z hy hz
end Go.Proofs.YbulkclxkGreat.rep
