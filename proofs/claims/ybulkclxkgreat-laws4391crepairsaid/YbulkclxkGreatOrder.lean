/-
  The ring's order at the labels l(0) to l(39), and what holding one more subscriber does to it.
-/
import Derived.Test.YbulkclxkGreatHold
import Derived.Test.YbulkclxkGreatNumber
namespace Go.Proofs.YbulkclxkGreat.order
open lab ring put hold
set_option linter.unusedVariables false

/-- 0 to 39 by the values of their labels. -/
def ord : List Nat := [0, 32, 16, 33, 8, 34, 17, 35, 4, 36, 18, 37, 9, 38, 19, 39, 2, 20, 10, 21, 5, 22, 11, 23, 1, 24, 12, 25, 6, 26, 13, 27, 3, 28, 14, 29, 7, 30, 15, 31]
def key (x : Nat) : Int := lkey (lb x) (ln x)
theorem ord_sorted : ord.Pairwise (fun x y => key x < key y) := by decide +kernel
theorem ord_mem : ∀ x, x < 40 → x ∈ ord := by decide +kernel
theorem ord_lt : ∀ x, x ∈ ord → x < 40 := by decide +kernel
theorem ord_head : ord = 0 :: ord.tail := rfl

def R (i m : Nat) : List Nat := ord.filter (fun x => decide (i ≤ x ∧ x < m))
def pr (x : Nat) : Pr := ⟨adr x, lb x, ln x⟩

theorem mem_R {i m x : Nat} (h : x ∈ R i m) : i ≤ x ∧ x < m ∧ x < 40 := by
  simp only [R, List.mem_filter, decide_eq_true_eq] at h
  exact ⟨h.2.1, h.2.2, ord_lt x h.1⟩

theorem R_split (i m : Nat) (hi : i < m) (hm : m ≤ 40) : ∃ A B : List Nat, R (i + 1) m = A ++ B ∧ R i m = A ++ i :: B ∧ (∀ x ∈ A, key x < key i) ∧ (∀ x ∈ B, key i < key x) := by
  obtain ⟨A, B, hO⟩ := List.append_of_mem (ord_mem i (by omega))
  have hs := ord_sorted
  rw [hO, List.pairwise_append] at hs
  obtain ⟨hA, hB, hAB⟩ := hs
  rw [List.pairwise_cons] at hB
  have hAi : ∀ x ∈ A, key x < key i := fun x hx => hAB x hx i (by simp)
  have hBi : ∀ x ∈ B, key i < key x := fun x hx => hB.1 x hx
  have hpA : ∀ x ∈ A, decide (i + 1 ≤ x ∧ x < m) = decide (i ≤ x ∧ x < m) := fun x hx => by
    have hne : x ≠ i := fun e => by have := hAi x hx; rw [e] at this; omega
    simp only [decide_eq_decide]; omega
  have hpB : ∀ x ∈ B, decide (i + 1 ≤ x ∧ x < m) = decide (i ≤ x ∧ x < m) := fun x hx => by
    have hne : x ≠ i := fun e => by have := hBi x hx; rw [e] at this; omega
    simp only [decide_eq_decide]; omega
  refine ⟨A.filter (fun x => decide (i ≤ x ∧ x < m)), B.filter (fun x => decide (i ≤ x ∧ x < m)), ?_, ?_, fun x hx => hAi x (List.mem_filter.1 hx).1, fun x hx => hBi x (List.mem_filter.1 hx).1⟩
  · rw [R, hO, List.filter_append, List.filter_cons_of_neg (by simp; omega), List.filter_congr hpA, List.filter_congr hpB]
  · rw [R, hO, List.filter_append, List.filter_cons_of_pos (by simpa using hi)]

theorem nth_append_left (A B : List Pr) (j : Nat) (h : j < A.length) : nth (A ++ B) j = nth A j := by
  simp [nth, List.getD_eq_getElem?_getD, List.getElem?_append_left h]
theorem nth_append_right (A B : List Pr) (j : Nat) (h : A.length ≤ j) : nth (A ++ B) j = nth B (j - A.length) := by
  simp [nth, List.getD_eq_getElem?_getD, List.getElem?_append_right h]
theorem nth_mem (A : List Pr) (j : Nat) (h : j < A.length) : nth A j ∈ A := by
  rw [nth, List.getD_eq_getElem?_getD, List.getElem?_eq_getElem h]; simp
theorem nth_map (A : List Nat) (j : Nat) (h : j < A.length) : nth (A.map pr) j = pr (A.getD j 0) := by
  simp [nth, List.getD_eq_getElem?_getD, List.getElem?_map, List.getElem?_eq_getElem h]

/-- What holding subscriber i does to the ring of i+1 .. m-1. -/
theorem R_step (i m : Nat) (hi : i < m) (hm : m ≤ 40) : ∃ pos, Sought (nth ((R (i + 1) m).map pr)) ((R (i + 1) m).map pr).length (lb i) (ln i) pos false ∧
    ((R (i + 1) m).map pr).take pos ++ pr i :: ((R (i + 1) m).map pr).drop pos = (R i m).map pr := by
  obtain ⟨A, B, h1, h2, hA, hB⟩ := R_split i m hi hm
  refine ⟨A.length, ?_, ?_⟩
  · have hAl : ∀ j, j < A.length → key (A.getD j 0) < key i := fun j hj => hA _ (by rw [List.getD_eq_getElem?_getD, List.getElem?_eq_getElem hj]; simp)
    have hBl : ∀ j, j < B.length → key i < key (B.getD j 0) := fun j hj => hB _ (by rw [List.getD_eq_getElem?_getD, List.getElem?_eq_getElem hj]; simp)
    have hR : ∀ j, A.length ≤ j → j < A.length + B.length → key i < key ((R (i + 1) m).getD j 0) := fun j h1' h2' => by
      have := hBl (j - A.length) (by omega)
      rw [h1, List.getD_eq_getElem?_getD, List.getElem?_append_right h1', ← List.getD_eq_getElem?_getD]
      exact this
    have hLn : ((R (i + 1) m).map pr).length = A.length + B.length := by rw [List.length_map, h1, List.length_append]
    have hRl : (R (i + 1) m).length = A.length + B.length := by rw [h1, List.length_append]
    refine ⟨by omega, fun j hj => ?_, fun j hj hj2 => ?_, fun h => by simp at h, fun _ hj => ?_⟩
    · rw [nth_map _ j (by omega)]
      have := hAl j hj
      rw [h1, List.getD_eq_getElem?_getD, List.getElem?_append_left hj, ← List.getD_eq_getElem?_getD]
      exact this
    · rw [nth_map _ j (by omega)]
      exact Int.le_of_lt (hR j hj (by omega))
    · rw [nth_map _ _ (by omega)]
      exact hR _ (Nat.le_refl _) (by omega)
  · rw [h1, h2, List.map_append, List.map_append]
    have e : (A.map pr).length = A.length := List.length_map _
    rw [List.take_left' e, List.drop_left' e]; rfl

theorem R_top (m : Nat) : R m m = [] := by
  rw [R, List.filter_eq_nil_iff]; intro x _; simp
theorem R_length (m : Nat) (hm : m ≤ 40) : ∀ k, k ≤ m → (R (m - k) m).length = k
  | 0, _ => by rw [Nat.sub_zero, R_top]; rfl
  | k + 1, h => by
    obtain ⟨A, B, h1, h2, _, _⟩ := R_split (m - (k + 1)) m (by omega) hm
    have ih := R_length m hm k (by omega)
    rw [show m - (k + 1) + 1 = m - k by omega] at h1
    rw [h1, List.length_append] at ih
    rw [h2, List.length_append, List.length_cons]; omega

theorem adr_named (x : Nat) : (adr x).toList.isEmpty = false := by
  rw [ByteArray.toList_eq] <;> rfl

theorem adr_ne {x y : Nat} (hx : x < 40) (hy : y < 40) (h : x ≠ y) : adr x ≠ adr y := by
  intro e
  simp only [adr, ByteArray.mk.injEq, Array.mk.injEq, List.cons.injEq, and_true, true_and] at e
  have := congrArg UInt8.toNat e
  rw [UInt8.toNat_ofNat', UInt8.toNat_ofNat'] at this
  omega
theorem adr_diff {x y : Nat} (hx : x < 40) (hy : y < 40) (h : x ≠ y) : ((adr x).toList == (adr y).toList) = false := by
  have h1 : (adr x).toList = (adr x).data.toList := by rw [ByteArray.toList_eq]
  have h2 : (adr y).toList = (adr y).data.toList := by rw [ByteArray.toList_eq]
  rw [h1, h2, beq_eq_false_iff_ne]
  intro e
  exact adr_ne hx hy h (by
    have : (adr x).data = (adr y).data := Array.ext' e
    cases hxx : adr x; cases hyy : adr y
    rw [hxx, hyy] at this
    exact congrArg ByteArray.mk this)
theorem adr_size (x : Nat) : (adr x).size = 2 := rfl

/-- The final ring of m. -/
abbrev Lm (m : Nat) : List Pr := (R 0 m).map pr
def num (m j : Nat) : Nat := (R 0 m).getD j 0
theorem Lm_length (m : Nat) (hm : m ≤ 40) : (Lm m).length = m := by
  rw [List.length_map]
  have := R_length m hm m (Nat.le_refl _)
  rwa [Nat.sub_self] at this
theorem R0_length (m : Nat) (hm : m ≤ 40) : (R 0 m).length = m := by
  have := R_length m hm m (Nat.le_refl _)
  rwa [Nat.sub_self] at this
theorem num_mem (m j : Nat) (hm : m ≤ 40) (hj : j < m) : num m j ∈ R 0 m := by
  have h := R0_length m hm
  rw [num, List.getD_eq_getElem?_getD, List.getElem?_eq_getElem (by omega)]; simp
theorem num_lt (m j : Nat) (hm : m ≤ 40) (hj : j < m) : num m j < m ∧ num m j < 40 := by
  have := mem_R (num_mem m j hm hj); omega
theorem nth_Lm (m j : Nat) (hm : m ≤ 40) (hj : j < m) : nth (Lm m) j = pr (num m j) := nth_map _ _ (by rw [R0_length m hm]; exact hj)
theorem R_sorted (i m : Nat) : (R i m).Pairwise (fun x y => key x < key y) := ord_sorted.sublist List.filter_sublist
theorem num_key (m j k : Nat) (hm : m ≤ 40) (hjk : j < k) (hk : k < m) : key (num m j) < key (num m k) := by
  have h := R0_length m hm
  have := List.pairwise_iff_getElem.1 (R_sorted 0 m) j k (by omega) (by omega) hjk
  rw [num, num, List.getD_eq_getElem?_getD, List.getD_eq_getElem?_getD, List.getElem?_eq_getElem (by omega), List.getElem?_eq_getElem (by omega)]
  exact this
theorem num_ne (m j k : Nat) (hm : m ≤ 40) (hjk : j ≠ k) (hj : j < m) (hk : k < m) : num m j ≠ num m k := by
  intro e
  rcases Nat.lt_or_gt_of_ne hjk with h | h
  · have := num_key m j k hm h hk; rw [e] at this; omega
  · have := num_key m k j hm h hj; rw [e] at this; omega
theorem num_zero (m : Nat) (h0 : 0 < m) : num m 0 = 0 := by
  rw [num, R, ord_head, List.filter_cons_of_pos (by simpa using h0)]; rfl
theorem ln_range : ∀ x, x < 40 → 0 < ln x ∧ ln x ≤ 64 := by decide +kernel
theorem Lm_ln (m : Nat) : ∀ q ∈ Lm m, 0 ≤ q.n ∧ q.n ≤ 64 := by
  intro q hq
  obtain ⟨x, hx, rfl⟩ := List.mem_map.1 hq
  have := ln_range x (mem_R hx).2.2
  exact ⟨Int.le_of_lt this.1, this.2⟩
theorem Rm_ln (i m : Nat) : ∀ q ∈ (R i m).map pr, 0 ≤ q.n ∧ q.n ≤ 64 := by
  intro q hq
  obtain ⟨x, hx, rfl⟩ := List.mem_map.1 hq
  have := ln_range x (mem_R hx).2.2
  exact ⟨Int.le_of_lt this.1, this.2⟩
/-- The ring's j-th label is found at j. -/
theorem sought_at (m j : Nat) (hm : m ≤ 40) (hj : j < m) : Sought (nth (Lm m)) (Lm m).length (lb (num m j)) (ln (num m j)) j true := by
  rw [Lm_length m hm]
  refine ⟨by omega, fun k hk => ?_, fun k h1 h2 => ?_, fun _ => ⟨hj, ?_⟩, fun h => by simp at h⟩
  · rw [nth_Lm m k hm (by omega)]; exact num_key m k j hm hk hj
  · rw [nth_Lm m k hm h2]
    rcases Nat.eq_or_lt_of_le h1 with e | e
    · rw [e]; exact Int.le_refl _
    · exact Int.le_of_lt (num_key m j k hm e h2)
  · rw [nth_Lm m j hm hj]; rfl
end Go.Proofs.YbulkclxkGreat.order
