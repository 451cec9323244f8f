/-
  WHAT relabel COMES TO, in numbers.
-/
import Derived.Test.YbulkclxkGreatBk
namespace Go.Proofs.YbulkclxkGreat.rep
open lab ring put hold order del
set_option linter.unusedVariables false

theorem full_perm : ∀ (m : Nat) (l : List Nat), (∀ x, x < m → x ∈ l) → l.length = m → l.Perm (List.range m)
  | 0, l, _, h => by rw [List.eq_nil_of_length_eq_zero h]; exact List.Perm.refl _
  | m + 1, l, hx, hl => by
    obtain ⟨A, C, rfl⟩ := List.append_of_mem (hx m (by omega))
    have ih := full_perm m (A ++ C) (fun x h => by
      have := hx x (by omega)
      simp only [List.mem_append, List.mem_cons] at this ⊢
      rcases this with q | q | q
      · exact .inl q
      · omega
      · exact .inr q) (by simp at hl ⊢; omega)
    rw [List.range_succ]
    exact (List.perm_middle.trans (List.Perm.cons m ih)).trans (List.perm_append_singleton m (List.range m)).symm
theorem small_full {m : Nat} {l : List Nat} (hn : l.Nodup) (hlt : ∀ x ∈ l, x < m) (hl : l.length = m) : ∀ x, x < m → x ∈ l := by
  have hp : l.Perm ((List.range m).filter (fun x => decide (x ∈ l))) := (List.perm_ext_iff_of_nodup hn (List.nodup_range.filter _)).2 (fun x => by
    simp only [List.mem_filter, List.mem_range, decide_eq_true_eq]
    exact ⟨fun h => ⟨hlt x h, h⟩, fun h => h.2⟩)
  have hlen := hp.length_eq
  intro x hx
  have hall : ((List.range m).filter (fun x => decide (x ∈ l))).length = (List.range m).length := by rw [← hlen, hl, List.length_range]
  have := List.length_filter_eq_length_iff.1 hall x (List.mem_range.2 hx)
  simpa using this

/-- The positions of the entries whose label is none of l(0) .. l(m-1). -/
def outs (m : Nat) (E : List (Nat × Nat)) (k : Nat) : List Nat := (List.range k).filter (fun j => decide (m ≤ (E.getD j (0, 0)).2))
def hel (E : List (Nat × Nat)) (k : Nat) (x : Nat) : Bool := decide (x ∈ (E.take k).map (·.2))
def free (E : List (Nat × Nat)) (m x : Nat) : Nat := ((List.range' x (m - x)).filter (fun y => !hel E E.length y)).length

theorem getD_eq {E : List (Nat × Nat)} {k : Nat} (h : k < E.length) : E.getD k (0, 0) = E[k] := by
  rw [List.getD_eq_getElem?_getD, List.getElem?_eq_getElem h]; rfl
theorem outs_succ_in {m k : Nat} {E : List (Nat × Nat)} (hk : k < E.length) (h : E[k].2 < m) : outs m E (k + 1) = outs m E k := by
  rw [outs, List.range_succ, List.filter_append, List.filter_cons_of_neg (by rw [getD_eq hk]; simp; omega)]; simp [outs]
theorem outs_succ_out {m k : Nat} {E : List (Nat × Nat)} (hk : k < E.length) (h : m ≤ E[k].2) : outs m E (k + 1) = outs m E k ++ [k] := by
  rw [outs, List.range_succ, List.filter_append, List.filter_cons_of_pos (by rw [getD_eq hk]; simpa using h)]; simp [outs]
theorem hel_succ {E : List (Nat × Nat)} {k x : Nat} (hk : k < E.length) : hel E (k + 1) x = (hel E k x || decide (x = E[k].2)) := by
  rw [hel, hel, List.take_add_one, List.getElem?_eq_getElem hk, List.map_append, Bool.eq_iff_iff]
  simp
theorem outs_mem {m k j : Nat} {E : List (Nat × Nat)} (hk : k ≤ E.length) (h : j ∈ outs m E k) : ∃ hj : j < E.length, m ≤ E[j].2 := by
  simp only [outs, List.mem_filter, List.mem_range, decide_eq_true_eq] at h
  have hj : j < E.length := by omega
  rw [getD_eq hj] at h
  exact ⟨hj, h.2⟩
theorem outs_nodup (m k : Nat) (E : List (Nat × Nat)) : (outs m E k).Nodup := List.nodup_range.filter _
theorem outs_le (m k : Nat) (E : List (Nat × Nat)) : (outs m E k).length ≤ k := by
  have := List.length_filter_le (fun j => decide (m ≤ (E.getD j (0, 0)).2)) (List.range k)
  rwa [List.length_range] at this

theorem outs_count (m : Nat) (E : List (Nat × Nat)) : (outs m E E.length).length = (E.filter (fun q => decide (m ≤ q.2))).length := by
  have : ∀ k, k ≤ E.length → (outs m E k).length = ((E.take k).filter (fun q => decide (m ≤ q.2))).length := by
    intro k
    induction k with
    | zero => intro _; rfl
    | succ k ih =>
      intro hk
      have hk' : k < E.length := by omega
      rw [List.take_add_one, List.getElem?_eq_getElem hk', List.filter_append, List.length_append, ← ih (by omega)]
      by_cases h : m ≤ E[k].2
      · rw [outs_succ_out hk' h]; simp [h]
      · rw [outs_succ_in hk' (by omega)]; simp [h]
  have h := this E.length (Nat.le_refl _)
  rwa [List.take_length] at h
theorem filter_split {α : Type} (p : α → Bool) (l : List α) : (l.filter p).length + (l.filter (fun x => !p x)).length = l.length := by
  induction l with
  | nil => rfl
  | cons a l ih =>
    by_cases h : p a = true
    · rw [List.filter_cons_of_pos h, List.filter_cons_of_neg (by simp [h])]; simp; omega
    · rw [List.filter_cons_of_neg h, List.filter_cons_of_pos (by simp [h])]; simp; omega

/-- As many entries lie outside l(0) .. l(m-1) as labels among these are free. -/
theorem outs_free {E : List (Nat × Nat)} (hn : (E.map (·.2)).Nodup) : (outs E.length E E.length).length = free E E.length 0 := by
  have h1 : (((E.map (·.2)).filter (fun x => decide (x < E.length)))).Perm ((List.range E.length).filter (fun x => hel E E.length x)) :=
    (List.perm_ext_iff_of_nodup (hn.filter _) (List.nodup_range.filter _)).2 (fun x => by
      simp only [List.mem_filter, List.mem_range, decide_eq_true_eq, hel, List.take_length]
      exact ⟨fun h => ⟨h.2, h.1⟩, fun h => ⟨h.2, h.1⟩⟩)
  have h2 := h1.length_eq
  have h3 := filter_split (fun x => hel E E.length x) (List.range E.length)
  have h4 := filter_split (fun q : Nat × Nat => decide (q.2 < E.length)) E
  have h5 : ((E.map (·.2)).filter (fun x => decide (x < E.length))).length = (E.filter (fun q => decide (q.2 < E.length))).length := by
    rw [List.filter_map, List.length_map]; rfl
  have h6 : (E.filter (fun q => !decide (q.2 < E.length))) = E.filter (fun q => decide (E.length ≤ q.2)) := by
    refine List.filter_congr (fun q _ => ?_)
    by_cases h : q.2 < E.length
    · simp [h]
    · simp [h]; omega
  rw [outs_count, free, Nat.sub_zero, ← List.range_eq_range']
  rw [h6] at h4
  rw [List.length_range] at h3
  omega
theorem free_held {E : List (Nat × Nat)} {m x : Nat} (hx : x < m) (h : hel E E.length x = true) : free E m x = free E m (x + 1) := by
  rw [free, free, show m - x = (m - (x + 1)) + 1 by omega, List.range'_succ, List.filter_cons_of_neg (by simp [h])]
theorem free_open {E : List (Nat × Nat)} {m x : Nat} (hx : x < m) (h : hel E E.length x = false) : free E m x = free E m (x + 1) + 1 := by
  rw [free, free, show m - x = (m - (x + 1)) + 1 by omega, List.range'_succ, List.filter_cons_of_pos (by simp [h]), List.length_cons]

/-- relabel, x labels looked at: the ring is T, the positions in O are to come. -/
structure Rel (E : List (Nat × Nat)) (x : Nat) (T : List (Nat × Nat)) (O : List Nat) : Prop where
  addr : T.map (·.1) = E.map (·.1)
  done : ∀ y, y < E.length → (y < x ∨ hel E E.length y = true) → y ∈ T.map (·.2)
  todo : ∀ j ∈ O, ∃ hj : j < T.length, E.length ≤ T[j].2
  nod : O.Nodup
  cnt : O.length = free E E.length x
theorem Rel.len {E T : List (Nat × Nat)} {x : Nat} {O : List Nat} (h : Rel E x T O) : T.length = E.length := by
  have := congrArg List.length h.addr
  simpa using this
theorem Rel.start {E : List (Nat × Nat)} (hn : (E.map (·.2)).Nodup) {O : List Nat} (hO : O.Perm (outs E.length E E.length)) : Rel E 0 E O where
  addr := rfl
  done := fun y hy h => by
    rcases h with h | h
    · omega
    · simpa [hel] using h
  todo := fun j hj => outs_mem (Nat.le_refl _) (hO.mem_iff.1 hj)
  nod := hO.nodup_iff.2 (outs_nodup _ _ _)
  cnt := by rw [hO.length_eq]; exact outs_free hn
theorem Rel.skip {E T : List (Nat × Nat)} {x : Nat} {O : List Nat} (h : Rel E x T O) (hx : x < E.length) (hh : hel E E.length x = true) : Rel E (x + 1) T O where
  addr := h.addr
  done := fun y hy hd => h.done y hy (by
    rcases hd with q | q
    · rcases Nat.lt_or_ge y x with e | e
      · exact .inl e
      · have : y = x := by omega
        subst this; exact .inr hh
    · exact .inr q)
  todo := h.todo
  nod := h.nod
  cnt := by rw [h.cnt, free_held hx hh]
theorem Rel.move {E T : List (Nat × Nat)} {x j : Nat} {O : List Nat} (h : Rel E x T (j :: O)) (hj : j < T.length) (hx : x < E.length) (hh : hel E E.length x = false) : Rel E (x + 1) (T.set j (T[j].1, x)) O where
  addr := by
    rw [List.map_set, ← h.addr]
    have : (T.map (·.1))[j]? = some T[j].1 := by rw [List.getElem?_map, List.getElem?_eq_getElem hj]; rfl
    apply List.ext_getElem?
    intro i
    by_cases e : j = i
    · subst e; rw [List.getElem?_set_self (by simpa using hj), this]
    · rw [List.getElem?_set_ne e]
  done := fun y hy hd => by
    rw [List.map_set]
    by_cases e : y = x
    · subst e
      exact List.mem_of_getElem? (i := j) (List.getElem?_set_self (by simpa using hj))
    · have hm := h.done y hy (by
        rcases hd with q | q
        · exact .inl (by omega)
        · exact .inr q)
      obtain ⟨i, hi, hie⟩ := List.getElem_of_mem hm
      have hne : j ≠ i := by
        rintro rfl
        obtain ⟨_, h2⟩ := h.todo j (by simp)
        simp only [List.getElem_map] at hie
        omega
      refine List.mem_of_getElem? (i := i) ?_
      rw [List.getElem?_set_ne hne, List.getElem?_eq_getElem hi, hie]
  todo := fun i hi => by
    obtain ⟨h1, h2⟩ := h.todo i (by simp [hi])
    have hne : j ≠ i := by
      rintro rfl
      exact (List.nodup_cons.1 h.nod).1 hi
    refine ⟨by simpa using h1, ?_⟩
    rw [List.getElem_set_ne hne]; exact h2
  nod := (List.nodup_cons.1 h.nod).2
  cnt := by
    have := h.cnt
    rw [free_open hx hh, List.length_cons] at this
    omega
theorem Rel.open_pos {E T : List (Nat × Nat)} {x : Nat} {O : List Nat} (h : Rel E x T O) (hx : x < E.length) (hh : hel E E.length x = false) : ∃ j O', O = j :: O' := by
  have := h.cnt
  rw [free_open hx hh] at this
  cases O with
  | nil => simp at this
  | cons j O => exact ⟨j, O, rfl⟩
theorem Rel.end {E T : List (Nat × Nat)} {O : List Nat} (h : Rel E E.length T O) : (T.map (·.2)).Perm (List.range E.length) :=
  full_perm _ _ (fun x hx => h.done x hx (.inl hx)) (by rw [List.length_map, h.len])

theorem sel_perm {E T : List (Nat × Nat)} (h : T.Perm E) (a : Nat) : (sel a T).Perm (sel a E) := (h.filter _).map _
theorem Con0.of_perm {E T : List (Nat × Nat)} {g : Nat → List Nat} (h : Con0 E g) (hp : T.Perm E) : Con0 T g :=
  ⟨fun q hq => h.bound q (hp.mem_iff.1 hq), h.zero, fun a h0 h6 => (h.perm a h0 h6).trans (sel_perm hp a).symm⟩
theorem Up.nodup2 {E : List (Nat × Nat)} (h : Up E) : (E.map (·.2)).Nodup := by
  rw [List.Nodup, List.pairwise_map]
  exact List.Pairwise.imp (fun hlt e => by rw [e] at hlt; omega) h

/-- One entry of name a given another label. -/
theorem Con0.replace {A C : List (Nat × Nat)} {g : Nat → List Nat} {a x y : Nat} (h : Con0 (A ++ (a, y) :: C) g) (h0 : 0 < a) (hx : x < 24) (hA : (a, y) ∉ A) (hC : (a, y) ∉ C) : Con0 (A ++ (a, x) :: C) (in1 (out1 g a y) a x) := by
  have h6 : a < 6 := (h.bound (a, y) (by simp)).1
  have h1 : Con0 (A ++ C) (out1 g a y) := {
    bound := fun q hq => h.bound q (by simp only [List.mem_append, List.mem_cons] at hq ⊢; rcases hq with hq | hq <;> simp [hq])
    zero := by have := h.zero; simp only [out1, upd]; rw [if_neg (by omega)]; exact this
    perm := by
      intro b hb0 hb6
      have hp := h.perm b hb0 hb6
      rw [sel_append] at hp ⊢
      by_cases e : b = a
      · subst e
        rw [sel_cons_same] at hp
        simp only [out1, upd, if_true]
        refine (hp.filter _).trans ?_
        rw [List.filter_append, List.filter_cons_of_neg (by simp)]
        rw [List.filter_eq_self.2, List.filter_eq_self.2]
        · intro z hz
          have := mem_sel.1 hz
          simp only [Bool.not_eq_true', beq_eq_false_iff_ne]
          rintro rfl; exact hC this
        · intro z hz
          have := mem_sel.1 hz
          simp only [Bool.not_eq_true', beq_eq_false_iff_ne]
          rintro rfl; exact hA this
      · rw [sel_cons_ne _ _ (Ne.symm e)] at hp
        simpa only [out1, upd, e, if_false] using hp }
  exact h1.insert h0 h6 hx
end Go.Proofs.YbulkclxkGreat.rep
