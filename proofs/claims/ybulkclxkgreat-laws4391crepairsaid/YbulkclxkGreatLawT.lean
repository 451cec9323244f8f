/-
  THE LAW's OWN TABLES, in numbers.
-/
import Derived.Test.YbulkclxkGreatSv
namespace Go.Proofs.YbulkclxkGreat.rep
open lab ring put hold order del
set_option linter.unusedVariables false

def arr (n : Nat) (o : Nat → Int) : Array Value := ((List.range n).map fun x => Value.int .i64 (o x)).toArray
theorem arr_at {n : Nat} (o : Nat → Int) {x : Nat} (h : x < n) : (arr n o)[x]? = some (.int .i64 (o x)) := by simp [arr, List.getElem?_range h]
theorem arr_set {n : Nat} (o : Nat → Int) (x : Nat) (a : Int) : (arr n o).setIfInBounds x (.int .i64 a) = arr n (fun y => if y = x then a else o y) := by
  apply Array.ext'
  rw [Array.toList_setIfInBounds]
  simp only [arr]
  apply List.ext_getElem?
  intro y
  by_cases hy : y < n
  · by_cases e : x = y
    · subst e; rw [List.getElem?_set_self (by simpa using hy)]; simp [List.getElem?_range hy]
    · rw [List.getElem?_set_ne e]; simp [List.getElem?_range hy]; intro h; exact absurd h.symm e
  · rw [List.getElem?_eq_none (by simp; omega), List.getElem?_eq_none (by simp; omega)]
def barr (p : Nat → Bool) : Array Value := ((List.range 6).map fun x => Value.bool (p x)).toArray
theorem barr_at (p : Nat → Bool) {x : Nat} (h : x < 6) : (barr p)[x]? = some (.bool (p x)) := by simp [barr, List.getElem?_range h]
theorem barr_set (p : Nat → Bool) (x : Nat) (b : Bool) : (barr p).setIfInBounds x (.bool b) = barr (fun y => if y = x then b else p y) := by
  apply Array.ext'
  rw [Array.toList_setIfInBounds]
  simp only [barr]
  apply List.ext_getElem?
  intro y
  by_cases hy : y < 6
  · by_cases e : x = y
    · subst e; rw [List.getElem?_set_self (by simpa using hy)]; simp [List.getElem?_range hy]
    · rw [List.getElem?_set_ne e]; simp [List.getElem?_range hy]; intro h; exact absurd h.symm e
  · rw [List.getElem?_eq_none (by simp; omega), List.getElem?_eq_none (by simp; omega)]

/-- The table of owners says who stands under which label. -/
structure Ow (o : Nat → Int) (E : List (Nat × Nat)) : Prop where
  iff : ∀ x, x < 24 → ∀ a : Nat, (a, x) ∈ E ↔ o x = (a : Int)
  rng : ∀ x, x < 24 → -1 ≤ o x ∧ o x < 6
theorem Ow.start : Ow (fun _ => -1) [] := ⟨fun x _ a => by simp, fun x _ => by simp⟩
theorem Ow.step {o : Nat → Int} {E E' : List (Nat × Nat)} (h : Ow o E) {a x : Nat} (ha : a < 6) (hm : ∀ b y, (b, y) ∈ E' ↔ if y = x then b = a else (b, y) ∈ E) : Ow (fun y => if y = x then (a : Int) else o y) E' where
  iff := fun y hy b => by
    rw [hm]
    by_cases e : y = x
    · simp only [e, if_true]; omega
    · simp only [e, if_false]; exact h.iff y hy b
  rng := fun y hy => by
    by_cases e : y = x
    · simp only [e, if_true]; omega
    · simp only [e, if_false]; exact h.rng y hy

def pres (o : Nat → Int) (k a : Nat) : Bool := decide (0 < a) && (List.range k).any (fun x => o x == (a : Int))
def cntP (o : Nat → Int) (k : Nat) : Nat := ((List.range 6).filter (pres o k)).length
theorem pres_zero (o : Nat → Int) : pres o 0 = fun _ => false := by funext a; simp [pres]
theorem pres_succ (o : Nat → Int) (k a : Nat) : pres o (k + 1) a = (pres o k a || (decide (0 < a) && o k == (a : Int))) := by
  unfold pres
  rw [List.range_succ, List.any_append]
  cases decide (0 < a) <;> simp
theorem pres_new {o : Nat → Int} {k a0 : Nat} (h0 : 0 < a0) (ho : o k = (a0 : Int)) : pres o (k + 1) = fun a => if a = a0 then true else pres o k a := by
  funext a
  rw [pres_succ]
  by_cases e : a = a0
  · subst e; simp [h0, ho]
  · have : (o k == (a : Int)) = false := by rw [beq_eq_false_iff_ne]; omega
    simp [e, this]
theorem pres_old {o : Nat → Int} {k : Nat} (h : ∀ a : Nat, 0 < a → o k = (a : Int) → pres o k a = true) : pres o (k + 1) = pres o k := by
  funext a
  rw [pres_succ]
  by_cases e : 0 < a ∧ o k = (a : Int)
  · rw [h a e.1 e.2]; rfl
  · have : (decide (0 < a) && o k == (a : Int)) = false := by
      rcases Nat.eq_zero_or_pos a with e1 | e1
      · simp [e1]
      · have : (o k == (a : Int)) = false := by rw [beq_eq_false_iff_ne]; exact fun e2 => e ⟨e1, e2⟩
        simp [this]
    rw [this, Bool.or_false]
theorem filter_upd (p : Nat → Bool) (a0 : Nat) : ∀ l : List Nat, l.Nodup → a0 ∈ l → p a0 = false → (l.filter (fun a => if a = a0 then true else p a)).length = (l.filter p).length + 1
  | [], _, h, _ => by simp at h
  | b :: l, hn, hm, hp => by
    rw [List.nodup_cons] at hn
    by_cases e : b = a0
    · subst e
      rw [List.filter_cons_of_pos (by simp), List.filter_cons_of_neg (by simp [hp]), List.length_cons]
      congr 2
      exact List.filter_congr (fun x hx => by
        have : x ≠ b := fun e => hn.1 (e ▸ hx)
        simp [this])
    · have hm' : a0 ∈ l := by
        rcases List.mem_cons.1 hm with h | h
        · exact absurd h.symm e
        · exact h
      have ih := filter_upd p a0 l hn.2 hm' hp
      by_cases hb : p b = true
      · rw [List.filter_cons_of_pos (by simp [hb]), List.filter_cons_of_pos hb, List.length_cons, List.length_cons, ih]
      · rw [List.filter_cons_of_neg (by simp [e, hb]), List.filter_cons_of_neg hb]; exact ih
theorem cntP_new {o : Nat → Int} {k a0 : Nat} (h0 : 0 < a0) (h6 : a0 < 6) (ho : o k = (a0 : Int)) (hp : pres o k a0 = false) : cntP o (k + 1) = cntP o k + 1 := by
  unfold cntP
  rw [pres_new h0 ho]
  exact filter_upd _ _ _ List.nodup_range (List.mem_range.2 h6) hp
theorem cntP_le (o : Nat → Int) (k : Nat) : cntP o k ≤ 6 := by
  have := List.length_filter_le (pres o k) (List.range 6)
  rwa [List.length_range] at this
theorem cntP_zero (o : Nat → Int) : cntP o 0 = 0 := by simp [cntP, pres_zero]

theorem pres_iff {o : Nat → Int} {E : List (Nat × Nat)} (h : Ow o E) (hb : ∀ q ∈ E, q.2 < 24) (a : Nat) : pres o 24 a = true ↔ 0 < a ∧ ∃ x, (a, x) ∈ E := by
  simp only [pres, Bool.and_eq_true, decide_eq_true_eq, List.any_eq_true, List.mem_range, beq_iff_eq]
  constructor
  · rintro ⟨h0, x, hx, e⟩; exact ⟨h0, x, (h.iff x hx a).2 e⟩
  · rintro ⟨h0, x, hx⟩; exact ⟨h0, x, hb _ hx, (h.iff x (hb _ hx) a).1 hx⟩
theorem cnt_none {o : Nat → Int} {E : List (Nat × Nat)} (h : Ow o E) (hb : ∀ q ∈ E, q.2 < 24) (hz : cntP o 24 = 0) : ∀ a, 0 < a → a < 6 → ∀ x, (a, x) ∉ E := by
  intro a h0 h6 x hx
  have hp : pres o 24 a = true := (pres_iff h hb a).2 ⟨h0, x, hx⟩
  have : a ∈ (List.range 6).filter (pres o 24) := List.mem_filter.2 ⟨List.mem_range.2 h6, hp⟩
  rw [List.eq_nil_of_length_eq_zero hz] at this
  simp at this
theorem cnt_some {o : Nat → Int} {E E' : List (Nat × Nat)} (h : Ow o E) (hb : ∀ q ∈ E, q.2 < 24) (hr : Rep E E') (h6 : ∀ q ∈ E', q.1 < 6) : E'.length = cntP o 24 := by
  have hp : (E'.map (·.1)).Perm ((List.range 6).filter (pres o 24)) := (List.perm_ext_iff_of_nodup hr.nod (List.nodup_range.filter _)).2 (fun a => by
    simp only [List.mem_filter, List.mem_range, List.mem_map]
    constructor
    · rintro ⟨q, hq, rfl⟩
      exact ⟨h6 q hq, (pres_iff h hb _).2 ⟨hr.pos q hq, (hr.names _ (hr.pos q hq)).2 ⟨q.2, hq⟩⟩⟩
    · rintro ⟨h6, hpr⟩
      obtain ⟨h0, x, hx⟩ := (pres_iff h hb a).1 hpr
      obtain ⟨y, hy⟩ := (hr.names a h0).1 ⟨x, hx⟩
      exact ⟨_, hy, rfl⟩)
  have := hp.length_eq
  rw [List.length_map] at this
  exact this
theorem pres_of {o : Nat → Int} {E E' : List (Nat × Nat)} (h : Ow o E) (hb : ∀ q ∈ E, q.2 < 24) (hr : Rep E E') {q : Nat × Nat} (hq : q ∈ E') : pres o 24 q.1 = true :=
  (pres_iff h hb _).2 ⟨hr.pos q hq, (hr.names _ (hr.pos q hq)).2 ⟨q.2, hq⟩⟩

theorem key_zero : ∀ x, x < 24 → key 0 ≤ key x := by decide +kernel
theorem first_zero {E E' : List (Nat × Nat)} (hr : Rep E E') (hu : Up E') (hb : ∀ q ∈ E', q.2 < 24) (hpos : 0 < E'.length) : E'[0].2 = 0 := by
  have hm : 0 ∈ E'.map (·.2) := hr.lab.mem_iff.2 (List.mem_range.2 hpos)
  obtain ⟨q, hq, he⟩ := List.mem_map.1 hm
  obtain ⟨A, C, hE⟩ := List.append_of_mem hq
  cases A with
  | nil => simp [hE, he]
  | cons p A =>
    rw [hE] at hu
    have h1 := (Up.out hu).1 p (by simp)
    rw [he] at h1
    have h2 := key_zero p.2 (hb p (by rw [hE]; simp))
    omega
def seen (E : List (Nat × Nat)) (k a : Nat) : Bool := decide (a ∈ (E.take k).map (·.1))
theorem seen_zero (E : List (Nat × Nat)) : seen E 0 = fun _ => false := by funext a; simp [seen]
theorem seen_succ {E : List (Nat × Nat)} {k : Nat} (hk : k < E.length) : seen E (k + 1) = fun a => if a = E[k].1 then true else seen E k a := by
  funext a
  unfold seen
  rw [List.take_add_one, List.getElem?_eq_getElem hk]
  simp only [List.map_append, List.mem_append, Option.toList_some, List.map_cons, List.map_nil, List.mem_singleton]
  by_cases e : a = E[k].1
  · simp only [e, or_true, decide_true, if_true]
  · simp only [e, or_false, if_false]
theorem seen_not {E : List (Nat × Nat)} (hn : (E.map (·.1)).Nodup) {k : Nat} (hk : k < E.length) : seen E k E[k].1 = false := by
  unfold seen
  rw [decide_eq_false_iff_not]
  intro hm
  rw [List.map_take] at hm
  obtain ⟨j, hj, hje⟩ := List.getElem_of_mem hm
  rw [List.length_take, List.length_map] at hj
  rw [List.getElem_take] at hje
  have h1 : (E.map (·.1))[j]'(by simp; omega) = (E.map (·.1))[k]'(by simpa using hk) := by rw [hje]; simp
  exact absurd ((List.getElem_inj hn).1 h1) (by omega)
def tally (E : List (Nat × Nat)) (k x : Nat) : Nat := ((E.take k).map (·.2)).count x
theorem tally_zero (E : List (Nat × Nat)) (x : Nat) : tally E 0 x = 0 := by simp [tally]
theorem tally_succ {E : List (Nat × Nat)} {k x : Nat} (hk : k < E.length) : tally E (k + 1) x = tally E k x + if E[k].2 = x then 1 else 0 := by
  unfold tally
  rw [List.take_add_one, List.getElem?_eq_getElem hk, List.map_append, List.count_append]
  by_cases e : E[k].2 = x
  · simp [e]
  · simp [e]
theorem tally_le (E : List (Nat × Nat)) (k x : Nat) : tally E k x ≤ k := by
  unfold tally
  refine Nat.le_trans List.count_le_length ?_
  simp; omega
theorem count_range : ∀ m x, x < m → (List.range m).count x = 1
  | 0, x, h => by omega
  | m + 1, x, h => by
    rw [List.range_succ, List.count_append]
    by_cases e : x = m
    · subst e
      rw [List.count_eq_zero_of_not_mem (by simp)]; simp
    · rw [count_range m x (by omega)]
      have : List.count x [m] = 0 := List.count_eq_zero_of_not_mem (by simp [e])
      rw [this]
theorem tally_one {E E' : List (Nat × Nat)} (hr : Rep E E') {x : Nat} (hx : x < E'.length) : tally E' E'.length x = 1 := by
  unfold tally
  rw [List.take_length, hr.lab.count_eq]
  exact count_range _ _ hx
theorem envs_cons (E : List (Nat × Nat)) (topic : ByteArray) (start : Int) (i : Nat) (O : List Nat) : envs E topic start (i :: O) = .string (nth (Lf E) i).a :: .iface 41 (.agg (cfgE E topic start i false)) :: envs E topic start O := rfl
theorem envs_at (E : List (Nat × Nat)) (topic : ByteArray) (start : Int) (O : List Nat) (k : Nat) (hk : k < O.length) : (envs E topic start O)[k * 2]? = some (.string (nth (Lf E) O[k]).a) ∧ (envs E topic start O)[k * 2 + 1]? = some (.iface 41 (.agg (cfgE E topic start O[k] false))) := by
  induction O generalizing k with
  | nil => simp at hk
  | cons i O ih =>
    rcases k with _ | k
    · exact ⟨rfl, rfl⟩
    · have := ih k (by simpa using hk)
      rw [envs_cons, show (k + 1) * 2 = k * 2 + 2 by omega]
      simpa using this
theorem envs_length (E : List (Nat × Nat)) (topic : ByteArray) (start : Int) (O : List Nat) : (envs E topic start O).length = O.length * 2 := by
  induction O with
  | nil => rfl
  | cons i O ih => rw [show (i :: O) = [i] ++ O from rfl, envs_append, List.length_append, ih]; simp [envs, env]; omega
end Go.Proofs.YbulkclxkGreat.rep
