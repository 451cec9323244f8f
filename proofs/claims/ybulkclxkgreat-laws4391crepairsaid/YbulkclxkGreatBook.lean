/-
  THE BOOK OF A TOPIC IN NUMBERS: entries (a, x): name a (0: none) under l(x); g a: the numbers of the labels indexed under name a.
-/
import Derived.Test.YbulkclxkGreatOrder
namespace Go.Proofs.YbulkclxkGreat.rep
open lab ring put hold order
set_option linter.unusedVariables false

def nm : Nat → ByteArray
  | 1 => ⟨#[97]⟩ | 2 => ⟨#[98]⟩ | 3 => ⟨#[99]⟩ | 4 => ⟨#[100]⟩ | 5 => ⟨#[101]⟩ | _ => ⟨#[]⟩
def ent (q : Nat × Nat) : Pr := ⟨nm q.1, lb q.2, ln q.2⟩
def lbl (x : Nat) : Int × Int := (lb x, ln x)
def Lf (E : List (Nat × Nat)) : List Pr := E.map ent
def Gf (g : Nat → List Nat) (ad : ByteArray) : List (Int × Int) :=
  if ad = nm 1 then (g 1).map lbl else if ad = nm 2 then (g 2).map lbl else if ad = nm 3 then (g 3).map lbl else if ad = nm 4 then (g 4).map lbl else if ad = nm 5 then (g 5).map lbl else []
def upd (g : Nat → List Nat) (a : Nat) (l : List Nat) : Nat → List Nat := fun b => if b = a then l else g b
def ne1 (l : List Nat) : Nat := if l.isEmpty then 0 else 1
def cnt (g : Nat → List Nat) : Nat := ne1 (g 1) + ne1 (g 2) + ne1 (g 3) + ne1 (g 4) + ne1 (g 5)
def sel (a : Nat) (E : List (Nat × Nat)) : List Nat := (E.filter (fun q => q.1 == a)).map (·.2)

theorem five {a : Nat} (h0 : 0 < a) (h6 : a < 6) : a = 1 ∨ a = 2 ∨ a = 3 ∨ a = 4 ∨ a = 5 := by omega
theorem nm_inj : ∀ a, a < 6 → ∀ b, b < 6 → nm a = nm b → a = b := by decide
theorem nm_named : ∀ a, 0 < a → a < 6 → (nm a).toList.isEmpty = false := by
  intro a h0 h6
  have : (nm a).toList = (nm a).data.toList := by rw [ByteArray.toList_eq]
  rw [this]
  rcases five h0 h6 with rfl | rfl | rfl | rfl | rfl <;> rfl
theorem nm_zero : (nm 0).toList.isEmpty = true := by
  have : (nm 0).toList = (nm 0).data.toList := by rw [ByteArray.toList_eq]
  rw [this]; rfl
theorem nm_size (a : Nat) : (nm a).size ≤ maxLen := by
  unfold nm maxLen; split <;> decide
theorem Lf_length (E : List (Nat × Nat)) : (Lf E).length = E.length := List.length_map _
theorem Gf_nm (g : Nat → List Nat) {a : Nat} (h0 : 0 < a) (h6 : a < 6) : Gf g (nm a) = (g a).map lbl := by
  rcases five h0 h6 with rfl | rfl | rfl | rfl | rfl <;> simp [Gf, nm]
theorem Gf_zero (g : Nat → List Nat) : Gf g (nm 0) = [] := by simp [Gf, nm]
theorem Gf_set (g : Nat → List Nat) {a : Nat} (h0 : 0 < a) (h6 : a < 6) (l : List Nat) (M : ByteArray → List (Int × Int)) (hM : M (nm a) = l.map lbl) : (fun x => if x = nm a then M x else Gf g x) = Gf (upd g a l) := by
  funext x
  by_cases hx : x = nm a
  · subst hx; simp only [if_true]; rw [hM, Gf_nm _ h0 h6]; simp [upd]
  · simp only [hx, if_false]
    rcases five h0 h6 with rfl | rfl | rfl | rfl | rfl <;> simp [Gf, upd, hx]
theorem ne1_pos {l : List Nat} (h : l ≠ []) : ne1 l = 1 := by cases l <;> simp_all [ne1]
theorem ne1_le (l : List Nat) : ne1 l ≤ 1 := by unfold ne1; split <;> omega
theorem cnt_le (g : Nat → List Nat) : cnt g ≤ 5 := by
  have := ne1_le (g 1); have := ne1_le (g 2); have := ne1_le (g 3); have := ne1_le (g 4); have := ne1_le (g 5); unfold cnt; omega
theorem cnt_upd (g : Nat → List Nat) {a : Nat} (h0 : 0 < a) (h6 : a < 6) (l : List Nat) : cnt (upd g a l) + ne1 (g a) = cnt g + ne1 l := by
  rcases five h0 h6 with rfl | rfl | rfl | rfl | rfl <;> simp [cnt, upd] <;> omega
theorem cnt_grow (g : Nat → List Nat) {a : Nat} (h0 : 0 < a) (h6 : a < 6) (l : List Nat) (hl : l ≠ []) : (if (g a).isEmpty then cnt g + 1 else cnt g) = cnt (upd g a l) := by
  have := cnt_upd g h0 h6 l
  rw [ne1_pos hl] at this
  unfold ne1 at this
  split <;> simp_all <;> omega

theorem sel_append (a : Nat) (A C : List (Nat × Nat)) : sel a (A ++ C) = sel a A ++ sel a C := by simp [sel]
theorem sel_cons_same (a x : Nat) (C : List (Nat × Nat)) : sel a ((a, x) :: C) = x :: sel a C := by simp [sel]
theorem sel_cons_ne {a b : Nat} (x : Nat) (C : List (Nat × Nat)) (h : b ≠ a) : sel a ((b, x) :: C) = sel a C := by simp [sel, h]
theorem mem_sel {a x : Nat} {E : List (Nat × Nat)} : x ∈ sel a E ↔ (a, x) ∈ E := by
  simp only [sel, List.mem_map, List.mem_filter, beq_iff_eq]
  constructor
  · rintro ⟨⟨b, y⟩, ⟨h, rfl⟩, rfl⟩; exact h
  · intro h; exact ⟨(a, x), ⟨h, rfl⟩, rfl⟩

structure Con0 (E : List (Nat × Nat)) (g : Nat → List Nat) : Prop where
  bound : ∀ q ∈ E, q.1 < 6 ∧ q.2 < 24
  zero : g 0 = []
  perm : ∀ a, 0 < a → a < 6 → (g a).Perm (sel a E)
def Up (E : List (Nat × Nat)) : Prop := E.Pairwise (fun p q => key p.2 < key q.2)

theorem key_inj : ∀ x, x < 24 → ∀ y, y < 24 → key x = key y → x = y := by decide +kernel

theorem Con0.insert {A C : List (Nat × Nat)} {g : Nat → List Nat} {a x : Nat} (h : Con0 (A ++ C) g) (h0 : 0 < a) (h6 : a < 6) (hx : x < 24) : Con0 (A ++ (a, x) :: C) (upd g a (g a ++ [x])) where
  bound := by
    intro q hq
    simp only [List.mem_append, List.mem_cons] at hq
    rcases hq with hq | rfl | hq
    · exact h.bound q (by simp [hq])
    · exact ⟨h6, hx⟩
    · exact h.bound q (by simp [hq])
  zero := by have := h.zero; simp only [upd]; rw [if_neg (by omega)]; exact this
  perm := by
    intro b hb0 hb6
    have hp := h.perm b hb0 hb6
    rw [sel_append] at hp ⊢
    by_cases e : b = a
    · subst e
      rw [sel_cons_same]
      simp only [upd, if_true]
      refine ((hp.append_right _).trans ?_)
      rw [List.append_assoc]
      exact List.Perm.append_left _ (List.perm_append_singleton x _)
    · rw [sel_cons_ne _ _ (Ne.symm e)]
      simpa only [upd, e, if_false] using hp
theorem Con0.insert0 {A C : List (Nat × Nat)} {g : Nat → List Nat} {x : Nat} (h : Con0 (A ++ C) g) (hx : x < 24) : Con0 (A ++ (0, x) :: C) g where
  bound := by
    intro q hq
    simp only [List.mem_append, List.mem_cons] at hq
    rcases hq with hq | rfl | hq
    · exact h.bound q (by simp [hq])
    · exact ⟨by omega, hx⟩
    · exact h.bound q (by simp [hq])
  zero := h.zero
  perm := by
    intro b hb0 hb6
    have hp := h.perm b hb0 hb6
    rw [sel_append] at hp ⊢
    rw [sel_cons_ne _ _ (by omega)]; exact hp
theorem Con0.remove {A C : List (Nat × Nat)} {g : Nat → List Nat} {a x : Nat} (h : Con0 (A ++ (a, x) :: C) g) (h0 : 0 < a) (hA : ∀ b, (b, x) ∉ A) (hC : ∀ b, (b, x) ∉ C) : Con0 (A ++ C) (upd g a ((g a).filter (fun y => !(y == x)))) where
  bound := fun q hq => h.bound q (by simp only [List.mem_append, List.mem_cons] at hq ⊢; rcases hq with hq | hq <;> simp [hq])
  zero := by have := h.zero; simp only [upd]; rw [if_neg (by omega)]; exact this
  perm := by
    intro b hb0 hb6
    have hp := h.perm b hb0 hb6
    rw [sel_append] at hp ⊢
    by_cases e : b = a
    · subst e
      rw [sel_cons_same] at hp
      simp only [upd, if_true]
      refine (hp.filter _).trans ?_
      rw [List.filter_append, List.filter_cons_of_neg (by simp)]
      rw [List.filter_eq_self.2, List.filter_eq_self.2]
      · intro y hy
        have := mem_sel.1 hy
        simp only [Bool.not_eq_true', beq_eq_false_iff_ne]
        rintro rfl; exact hC _ this
      · intro y hy
        have := mem_sel.1 hy
        simp only [Bool.not_eq_true', beq_eq_false_iff_ne]
        rintro rfl; exact hA _ this
    · rw [sel_cons_ne _ _ (Ne.symm e)] at hp
      simpa only [upd, e, if_false] using hp
theorem Con0.remove0 {A C : List (Nat × Nat)} {g : Nat → List Nat} {x : Nat} (h : Con0 (A ++ (0, x) :: C) g) : Con0 (A ++ C) g where
  bound := fun q hq => h.bound q (by simp only [List.mem_append, List.mem_cons] at hq ⊢; rcases hq with hq | hq <;> simp [hq])
  zero := h.zero
  perm := by
    intro b hb0 hb6
    have hp := h.perm b hb0 hb6
    rw [sel_append] at hp ⊢
    rw [sel_cons_ne _ _ (by omega)] at hp; exact hp

theorem Up.out {A C : List (Nat × Nat)} {q : Nat × Nat} (h : Up (A ++ q :: C)) : (∀ p ∈ A, key p.2 < key q.2) ∧ (∀ p ∈ C, key q.2 < key p.2) ∧ Up (A ++ C) := by
  unfold Up at h ⊢
  rw [List.pairwise_append, List.pairwise_cons] at h
  refine ⟨fun p hp => h.2.2 p hp q (by simp), h.2.1.1, ?_⟩
  rw [List.pairwise_append]
  exact ⟨h.1, h.2.1.2, fun p hp r hr => h.2.2 p hp r (by simp [hr])⟩
theorem Up.fresh {A C : List (Nat × Nat)} {a x : Nat} (h : Up (A ++ (a, x) :: C)) : (∀ b, (b, x) ∉ A) ∧ (∀ b, (b, x) ∉ C) := by
  obtain ⟨h1, h2, _⟩ := h.out
  exact ⟨fun b hb => by have := h1 _ hb; simp at this, fun b hb => by have := h2 _ hb; simp at this⟩
theorem Up.put {A C : List (Nat × Nat)} {q : Nat × Nat} (h : Up (A ++ C)) (h1 : ∀ p ∈ A, key p.2 < key q.2) (h2 : ∀ p ∈ C, key q.2 < key p.2) : Up (A ++ q :: C) := by
  unfold Up at h ⊢
  rw [List.pairwise_append] at h ⊢
  rw [List.pairwise_cons]
  refine ⟨h.1, ⟨h2, h.2.1⟩, fun p hp r hr => ?_⟩
  rcases List.mem_cons.1 hr with rfl | hr
  · exact h1 p hp
  · exact h.2.2 p hp r hr
theorem Up.split {E : List (Nat × Nat)} (h : Up E) (x : Nat) : ∃ A C, E = A ++ C ∧ (∀ p ∈ A, key p.2 < key x) ∧ (∀ p ∈ C, key x ≤ key p.2) := by
  induction E with
  | nil => exact ⟨[], [], rfl, by simp, by simp⟩
  | cons q E ih =>
    unfold Up at h
    rw [List.pairwise_cons] at h
    by_cases hq : key q.2 < key x
    · obtain ⟨A, C, rfl, hA, hC⟩ := ih h.2
      refine ⟨q :: A, C, rfl, ?_, hC⟩
      intro p hp
      rcases List.mem_cons.1 hp with rfl | hp
      · exact hq
      · exact hA p hp
    · refine ⟨[], q :: E, rfl, by simp, ?_⟩
      intro p hp
      rcases List.mem_cons.1 hp with rfl | hp
      · omega
      · have := h.1 p hp; omega

theorem nth_Lf (E : List (Nat × Nat)) (j : Nat) (h : j < E.length) : nth (Lf E) j = ent E[j] := by
  simp [nth, Lf, List.getD_eq_getElem?_getD, List.getElem?_map, List.getElem?_eq_getElem h]
theorem nth_Lf_mid (A C : List (Nat × Nat)) (q : Nat × Nat) : nth (Lf (A ++ q :: C)) A.length = ent q := by
  rw [nth_Lf _ _ (by simp)]; simp
theorem nth_Lf_left (A C : List (Nat × Nat)) (j : Nat) (h : j < A.length) : ∃ q ∈ A, nth (Lf (A ++ C)) j = ent q := by
  refine ⟨A[j], List.getElem_mem h, ?_⟩
  rw [nth_Lf _ _ (by simp; omega), List.getElem_append_left h]
theorem nth_Lf_right (A C : List (Nat × Nat)) (j : Nat) (h : A.length ≤ j) (h2 : j < (A ++ C).length) : ∃ q ∈ C, nth (Lf (A ++ C)) j = ent q := by
  have h3 : j - A.length < C.length := by simp at h2; omega
  refine ⟨C[j - A.length], List.getElem_mem h3, ?_⟩
  rw [nth_Lf _ _ h2, List.getElem_append_right h]

theorem sought_of (A C : List (Nat × Nat)) (x : Nat) (found : Bool) (hA : ∀ p ∈ A, key p.2 < key x) (hC : ∀ p ∈ C, key x ≤ key p.2)
    (hy : found = true → ∃ q C', C = q :: C' ∧ q.2 = x) (hn : found = false → ∀ p ∈ C, key x < key p.2) : Sought (nth (Lf (A ++ C))) (Lf (A ++ C)).length (lb x) (ln x) A.length found := by
  rw [Lf_length]
  refine ⟨by simp, fun j hj => ?_, fun j h1 h2 => ?_, fun hf => ?_, fun hf hlt => ?_⟩
  · obtain ⟨q, hq, e⟩ := nth_Lf_left A C j hj
    rw [e]; exact hA q hq
  · obtain ⟨q, hq, e⟩ := nth_Lf_right A C j h1 h2
    rw [e]; exact hC q hq
  · obtain ⟨q, C', rfl, rfl⟩ := hy hf
    refine ⟨by simp, ?_⟩
    rw [nth_Lf_mid]; rfl
  · obtain ⟨q, hq, e⟩ := nth_Lf_right A C A.length (Nat.le_refl _) hlt
    rw [e]; exact hn hf q hq

/-- Where the search for l(x) ends. -/
theorem Up.seek {E : List (Nat × Nat)} (h : Up E) (hb : ∀ q ∈ E, q.1 < 6 ∧ q.2 < 24) (x : Nat) (hx : x < 24) :
    (∃ A a C, E = A ++ (a, x) :: C ∧ Sought (nth (Lf E)) (Lf E).length (lb x) (ln x) A.length true) ∨
    (∃ A C, E = A ++ C ∧ (∀ p ∈ A, key p.2 < key x) ∧ (∀ p ∈ C, key x < key p.2) ∧ Sought (nth (Lf E)) (Lf E).length (lb x) (ln x) A.length false) := by
  obtain ⟨A, C, rfl, hA, hC⟩ := h.split x
  rcases C with _ | ⟨q, C⟩
  · right
    exact ⟨A, [], rfl, hA, by simp, sought_of A [] x false hA hC (by simp) (by simp)⟩
  · have ho := Up.out h
    by_cases e : key q.2 = key x
    · left
      have e2 : q.2 = x := key_inj _ (hb q (by simp)).2 _ hx e
      obtain ⟨a, y⟩ := q
      simp only at e2
      subst e2
      exact ⟨A, a, C, rfl, sought_of A _ y true hA hC (fun _ => ⟨_, _, rfl, rfl⟩) (by simp)⟩
    · right
      have hq : key x < key q.2 := by have := hC q (by simp); omega
      have hC' : ∀ p ∈ q :: C, key x < key p.2 := by
        intro p hp
        rcases List.mem_cons.1 hp with rfl | hp
        · exact hq
        · have := ho.2.1 p hp; omega
      exact ⟨A, q :: C, rfl, hA, hC', sought_of A _ x false hA hC (by simp) (fun _ => hC')⟩
theorem Up.seekIn {A C : List (Nat × Nat)} {a x : Nat} (h : Up (A ++ (a, x) :: C)) : Sought (nth (Lf (A ++ (a, x) :: C))) (Lf (A ++ (a, x) :: C)).length (lb x) (ln x) A.length true := by
  obtain ⟨h1, h2, _⟩ := h.out
  exact sought_of A _ x true h1 (by intro p hp; rcases List.mem_cons.1 hp with rfl | hp; exact Int.le_refl _; exact Int.le_of_lt (h2 p hp)) (fun _ => ⟨_, _, rfl, rfl⟩) (by simp)
theorem ln_of {E : List (Nat × Nat)} (hb : ∀ q ∈ E, q.1 < 6 ∧ q.2 < 24) : ∀ q ∈ Lf E, 0 ≤ q.n ∧ q.n ≤ 64 := by
  intro q hq
  obtain ⟨p, hp, rfl⟩ := List.mem_map.1 hq
  have := ln_range p.2 (by have := (hb p hp).2; omega)
  exact ⟨Int.le_of_lt this.1, this.2⟩
theorem lbl_inj : ∀ x, x < 24 → ∀ y, y < 24 → lbl x = lbl y → x = y := by decide +kernel
end Go.Proofs.YbulkclxkGreat.rep
