import Derived.Test.YbulkclxkGreatBook
import Derived.Test.YbulkclxkGreatRemove
namespace Go.Proofs.YbulkclxkGreat.rep
open Go.ChangeShapes Go.WideShapes Go.ChangeAt Go.RowKit
open lab ring maps sup put hold order del
set_option linter.unusedVariables false

theorem same_lbl : ∀ x, x < 24 → ∀ y, y < 24 → same (lb x, ln x) (lbl y) = (y == x) := by decide +kernel

theorem sel_le (a : Nat) (E : List (Nat × Nat)) : (sel a E).length ≤ E.length := by
  rw [sel, List.length_map]; exact List.length_filter_le _ _
theorem Con0.glen {E : List (Nat × Nat)} {g : Nat → List Nat} (h : Con0 E g) {a : Nat} (h0 : 0 < a) (h6 : a < 6) : (g a).length ≤ E.length := by
  rw [(h.perm a h0 h6).length_eq]; exact sel_le a E
theorem Con0.gmem {E : List (Nat × Nat)} {g : Nat → List Nat} (h : Con0 E g) {a x : Nat} (h0 : 0 < a) (h6 : a < 6) : x ∈ g a ↔ (a, x) ∈ E := by
  rw [(h.perm a h0 h6).mem_iff]; exact mem_sel
def out1 (g : Nat → List Nat) (a x : Nat) : Nat → List Nat := upd g a ((g a).filter (fun y => !(y == x)))
def in1 (g : Nat → List Nat) (a x : Nat) : Nat → List Nat := upd g a (g a ++ [x])

section
variable {B rb kb : Nat} {t0 t1 st : Int} {E : List (Nat × Nat)} {g : Nat → List Nat}
theorem shU (h : Con0 E g) (hE : E.length ≤ 400) {a x : Nat} (h0 : 0 < a) (hm : (a, x) ∈ E) : Sh 24 (ent (a, x)) B rb kb t0 t1 st (cnt g) (cnt (out1 g a x)) (Gf g) (Gf (out1 g a x)) := by
  obtain ⟨h6, hx⟩ := h.bound _ hm
  have hG : Gf g (nm a) = (g a).map lbl := Gf_nm g h0 h6
  have hin := (h.gmem h0 h6).2 hm
  have hne : g a ≠ [] := fun e => by rw [e] at hin; simp at hin
  have hw : without (ent (a, x)) (Gf g (nm a)) = ((g a).filter (fun y => !(y == x))).map lbl := by
    rw [hG, without, List.filter_map]
    congr 1
    refine List.filter_congr (fun y hy => ?_)
    have hyl : y < 24 := (h.bound (a, y) ((h.gmem h0 h6).1 hy)).2
    show (!same (lb x, ln x) (lbl y)) = _
    rw [same_lbl x hx y hyl]
  have := sh_unindex (p := ent (a, x)) (B := B) (rb := rb) (lb := kb) (t0 := t0) (t1 := t1) (st := st) (n := cnt g) (G := Gf g) (by have := cnt_le g; omega) (by show (Gf g (nm a)).length ≤ _; rw [hG, List.length_map]; have := h.glen h0 h6; omega) (by show Gf g (nm a) ≠ []; rw [hG]; simpa using hne) (nm_named a h0 h6) (nm_size a)
  have e1 : (fun y => if y = (ent (a, x)).a then without (ent (a, x)) (Gf g y) else Gf g y) = Gf (out1 g a x) := Gf_set g h0 h6 _ (fun y => without (ent (a, x)) (Gf g y)) hw
  have e2 : (if (without (ent (a, x)) (Gf g (ent (a, x)).a)).isEmpty then cnt g - 1 else cnt g) = cnt (out1 g a x) := by
    show (if (without (ent (a, x)) (Gf g (nm a))).isEmpty then cnt g - 1 else cnt g) = _
    rw [hw, List.isEmpty_map]
    have := cnt_upd g h0 h6 ((g a).filter (fun y => !(y == x)))
    rw [ne1_pos hne] at this
    unfold out1
    unfold ne1 at this
    by_cases hh : (List.filter (fun y => !(y == x)) (g a)).isEmpty = true
    · rw [if_pos hh] at this ⊢; omega
    · rw [if_neg hh] at this ⊢; omega
  rw [e1, e2] at this
  exact this
theorem shI (h : ∀ a, 0 < a → a < 6 → (g a).length ≤ 400) {a x : Nat} (h0 : 0 < a) (h6 : a < 6) : Sh 26 (ent (a, x)) B rb kb t0 t1 st (cnt g) (cnt (in1 g a x)) (Gf g) (Gf (in1 g a x)) := by
  have hG : Gf g (nm a) = (g a).map lbl := Gf_nm g h0 h6
  have := sh_index (p := ent (a, x)) (B := B) (rb := rb) (lb := kb) (t0 := t0) (t1 := t1) (st := st) (n := cnt g) (G := Gf g) (by have := cnt_le g; omega) (by show (Gf g (nm a)).length ≤ _; rw [hG, List.length_map]; have := h a h0 h6; omega) (nm_named a h0 h6) (nm_size a)
  have e1 : (fun y => if y = (ent (a, x)).a then Gf g y ++ [((ent (a, x)).b, (ent (a, x)).n)] else Gf g y) = Gf (in1 g a x) := Gf_set g h0 h6 _ (fun y => Gf g y ++ [(lb x, ln x)]) (by rw [hG, List.map_append]; rfl)
  have e2 : (if (Gf g (ent (a, x)).a).isEmpty then cnt g + 1 else cnt g) = cnt (in1 g a x) := by
    show (if (Gf g (nm a)).isEmpty then cnt g + 1 else cnt g) = _
    rw [hG, List.isEmpty_map]
    exact cnt_grow g h0 h6 _ (by simp)
  rw [e1, e2] at this
  exact this
theorem shU0 {x : Nat} : Sh 24 (ent (0, x)) B rb kb t0 t1 st (cnt g) (cnt g) (Gf g) (Gf g) := sh_unindex0 nm_zero
theorem shI0 {x : Nat} : Sh 26 (ent (0, x)) B rb kb t0 t1 st (cnt g) (cnt g) (Gf g) (Gf g) := sh_index0 nm_zero
end

/-- A topic's book, whole. -/
structure Bk (w : World) (B rb kb : Nat) (E : List (Nat × Nat)) (g : Nat → List Nat) (t0 t1 st : Int) (v : Value) (f : ByteArray → Option Value) : Prop where
  con : Con0 E g
  up : Up E
  len : E.length ≤ 400
  ros : Ros w B rb kb (Lf E) (cnt g) (Gf g) t0 t1 st v f
theorem Bk.later {w w' : World} {B rb kb : Nat} {E : List (Nat × Nat)} {g : Nat → List Nat} {t0 t1 st : Int} {v : Value} {f : ByteArray → Option Value} (h : Bk w B rb kb E g t0 t1 st v f) (hb : Below w.heap.size w w') : Bk w' B rb kb E g t0 t1 st v f := ⟨h.con, h.up, h.len, h.ros.later hb⟩
theorem Lf_take (A C : List (Nat × Nat)) : (Lf (A ++ C)).take A.length = Lf A := by rw [Lf, List.map_append]; exact List.take_left' (by simp)
theorem Lf_drop (A C : List (Nat × Nat)) : (Lf (A ++ C)).drop A.length = Lf C := by rw [Lf, List.map_append]; exact List.drop_left' (by simp)
theorem Lf_cons (q : Nat × Nat) (C : List (Nat × Nat)) : Lf (q :: C) = ent q :: Lf C := rfl
theorem Lf_append (A C : List (Nat × Nat)) : Lf (A ++ C) = Lf A ++ Lf C := List.map_append
theorem Lf_set (A C : List (Nat × Nat)) (q r : Nat × Nat) : (Lf (A ++ q :: C)).set A.length (ent r) = Lf (A ++ r :: C) := by
  rw [Lf_append, Lf_append, Lf_cons, Lf_cons, List.set_append_right _ _ (by simp [Lf]), Lf_length, Nat.sub_self]; rfl
theorem Lf_drop1 (A C : List (Nat × Nat)) (q : Nat × Nat) : (Lf (A ++ q :: C)).take A.length ++ (Lf (A ++ q :: C)).drop (A.length + 1) = Lf (A ++ C) := by
  rw [Lf_take, ← List.drop_drop, Lf_drop, Lf_cons, Lf_append]; rfl

set_option maxRecDepth 100000 in
/-- put, in numbers. -/
theorem put_bk {w : World} {B rb kb : Nat} {E : List (Nat × Nat)} {g : Nat → List Nat} {t0 t1 st : Int} {v : Value} {f : ByteArray → Option Value} (h : Bk w B rb kb E g t0 t1 st v f) (hl : E.length < 400) (a x : Nat) (ha : a < 6) (hx : x < 24) :
    Calls Ybaz.prog 16 #[.pointer (some ⟨rb, 0, none⟩), .agg #[.string (nm a), .int .u64 (lb x), .int .u8 (ln x)]] w fun e w' => e = .returned (.tuple #[]) ∧
      ∃ E' g' v' f', Bk w' B rb kb E' g' t0 t1 st v' f' ∧ Step rb kb w v f w' v' f' ∧ E'.length ≤ E.length + 1 ∧ ∀ b y, (b, y) ∈ E' ↔ if y = x then b = a else (b, y) ∈ E := by
  have hln := ln_of h.con.bound
  have hpn : 0 ≤ (ent (a, x)).n ∧ (ent (a, x)).n ≤ 64 := by have := ln_range x (by omega); exact ⟨Int.le_of_lt this.1, this.2⟩
  rcases h.up.seek h.con.bound x hx with ⟨A, c, C, rfl, hs⟩ | ⟨A, C, rfl, hA, hC, hs⟩
  · have hfr := h.up.fresh
    have hmem : ∀ b y, (b, y) ∈ A ++ (a, x) :: C ↔ if y = x then b = a else (b, y) ∈ A ++ (c, x) :: C := by
      intro b y
      by_cases e : y = x
      · subst e
        simp only [if_true, List.mem_append, List.mem_cons, Prod.mk.injEq, and_true]
        constructor
        · rintro (q | q | q)
          · exact absurd q (hfr.1 b)
          · exact q
          · exact absurd q (hfr.2 b)
        · intro q; exact .inr (.inl q)
      · simp [e]
    obtain ⟨hkA, hkC, hup'⟩ := h.up.out
    have hup2 : Up (A ++ (a, x) :: C) := hup'.put hkA hkC
    have hc6 : c < 6 := (h.con.bound (c, x) (by simp)).1
    have hnth : nth (Lf (A ++ (c, x) :: C)) A.length = ent (c, x) := nth_Lf_mid A C (c, x)
    have hU : ∃ g1, Sh 24 (nth (Lf (A ++ (c, x) :: C)) A.length) B rb kb t0 t1 st (cnt g) (cnt g1) (Gf g) (Gf g1) ∧ Con0 (A ++ C) g1 := by
      rw [hnth]
      rcases Nat.eq_zero_or_pos c with rfl | hc0
      · exact ⟨g, shU0, h.con.remove0⟩
      · exact ⟨out1 g c x, shU h.con h.len hc0 (by simp), h.con.remove hc0 hfr.1 hfr.2⟩
    obtain ⟨g1, hU, hc1⟩ := hU
    have hI : ∃ g2, Sh 26 (ent (a, x)) B rb kb t0 t1 st (cnt g1) (cnt g2) (Gf g1) (Gf g2) ∧ Con0 (A ++ (a, x) :: C) g2 := by
      rcases Nat.eq_zero_or_pos a with rfl | ha0
      · exact ⟨g1, shI0, hc1.insert0 hx⟩
      · exact ⟨in1 g1 a x, shI (fun b hb0 hb6 => by have := hc1.glen hb0 hb6; have := h.len; simp at *; omega) ha0 ha, hc1.insert ha0 ha hx⟩
    obtain ⟨g2, hI, hc2⟩ := hI
    refine (put_held B rb kb (cnt g) (cnt g1) (cnt g2) A.length (Lf (A ++ (c, x) :: C)) (Gf g) (Gf g1) (Gf g2) t0 t1 st v f (ent (a, x)) w h.ros (by rw [Lf_length]; have := h.len; omega) hU hI hln hpn hs).mono ?_
    rintro e w' ⟨rfl, v', f', hr, hS⟩
    rw [Lf_set] at hr
    exact ⟨rfl, A ++ (a, x) :: C, g2, v', f', ⟨hc2, hup2, by have := h.len; simp at *; omega, hr⟩, hS, by simp, hmem⟩
  · have hup2 : Up (A ++ (a, x) :: C) := h.up.put hA hC
    have hmem : ∀ b y, (b, y) ∈ A ++ (a, x) :: C ↔ if y = x then b = a else (b, y) ∈ A ++ C := by
      intro b y
      by_cases e : y = x
      · subst e
        simp only [if_true, List.mem_append, List.mem_cons, Prod.mk.injEq, and_true]
        constructor
        · rintro (q | q | q)
          · have := hA _ q; simp at this
          · exact q
          · have := hC _ q; simp at this
        · intro q; exact .inr (.inl q)
      · simp [e]
    have hI : ∃ g2, Sh 26 (ent (a, x)) B rb kb t0 t1 st (cnt g) (cnt g2) (Gf g) (Gf g2) ∧ Con0 (A ++ (a, x) :: C) g2 := by
      rcases Nat.eq_zero_or_pos a with rfl | ha0
      · exact ⟨g, shI0, h.con.insert0 hx⟩
      · exact ⟨in1 g a x, shI (fun b hb0 hb6 => by have := h.con.glen hb0 hb6; have := h.len; omega) ha0 ha, h.con.insert ha0 ha hx⟩
    obtain ⟨g2, hI, hc2⟩ := hI
    refine (put_fresh B rb kb (cnt g) (cnt g2) A.length (Lf (A ++ C)) (Gf g) (Gf g2) t0 t1 st v f (ent (a, x)) w h.ros (by rw [Lf_length]; have := h.len; omega) hI hln hpn hs).mono ?_
    rintro e w' ⟨rfl, v', f', hr, hS⟩
    rw [Lf_take, Lf_drop, ← Lf_cons, ← Lf_append] at hr
    exact ⟨rfl, A ++ (a, x) :: C, g2, v', f', ⟨hc2, hup2, by simp at *; omega, hr⟩, hS, by simp; omega, hmem⟩

set_option maxRecDepth 100000 in
/-- remove, in numbers. -/
theorem remove_bk {w : World} {B rb kb : Nat} {A C : List (Nat × Nat)} {a x : Nat} {g : Nat → List Nat} {t0 t1 st : Int} {v : Value} {f : ByteArray → Option Value} (h : Bk w B rb kb (A ++ (a, x) :: C) g t0 t1 st v f) (ha : 0 < a) :
    Calls Ybaz.prog 59 #[.pointer (some ⟨rb, 0, none⟩), .int .i64 A.length] w fun e w' => e = .returned (.tuple #[]) ∧
      ∃ v' f', Bk w' B rb kb (A ++ C) (out1 g a x) t0 t1 st v' f' ∧ Step rb kb w v f w' v' f' := by
  have hfr := h.up.fresh
  have hU : Sh 24 (nth (Lf (A ++ (a, x) :: C)) A.length) B rb kb t0 t1 st (cnt g) (cnt (out1 g a x)) (Gf g) (Gf (out1 g a x)) := by
    rw [nth_Lf_mid]; exact shU h.con h.len ha (by simp)
  refine (remove_any B rb kb (cnt g) (cnt (out1 g a x)) A.length (Lf (A ++ (a, x) :: C)) (Gf g) (Gf (out1 g a x)) t0 t1 st v f w h.ros (by rw [Lf_length]; have := h.len; omega) (by rw [Lf_length]; simp) hU).mono ?_
  rintro e w' ⟨rfl, v', f', hr, hS⟩
  rw [Lf_drop1] at hr
  exact ⟨rfl, v', f', ⟨h.con.remove ha hfr.1 hfr.2, h.up.out.2.2, by have := h.len; simp at *; omega, hr⟩, hS⟩
end Go.Proofs.YbulkclxkGreat.rep
