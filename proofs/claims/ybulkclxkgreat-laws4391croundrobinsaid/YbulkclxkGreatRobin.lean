import Derived.Test.YbulkclxkGreatTick
import Derived.Test.YbulkclxkGreatWant
import Derived.Test.YbulkclxkGreatNext
import Derived.Test.YbulkclxkGreatSubs
import Derived.Test.YbulkclxkGreatOrder
import Derived.BigQuiet
namespace Go.Proofs.YbulkclxkGreat.lawS4391CRoundRobin
open Go.ChangeShapes Go.WideShapes Go.ChangeAt Go.RowKit
open lab ring maps sup put hold read tick order
set_option linter.unusedVariables false

/-- Holding subscriber k onto the ring of k+1 .. m-1. -/
theorem hold_step (W : World) (sb tb rb lb' B m k : Nat) (topic : ByteArray) (start : Int) (G : ByteArray → List (Int × Int)) (w : World) (ht : topic.size ≤ maxLen) (hm : m ≤ 40) (hk : k < m)
    (h : St W w sb tb rb lb' B topic start ((R (k + 1) m).map pr) (m - (k + 1)) G 0 0) (hG : ∀ x, x < k + 1 → G (adr x) = []) :
    Calls Ybaz.prog 6 #[.pointer (some ⟨sb, 0, none⟩), .string topic, .agg #[.string (adr k), .int .u64 (lb k), .int .u8 (ln k)]] w fun e w' => e = .returned (.tuple #[]) ∧
      ∃ G', St W w' sb tb rb lb' B topic start ((R k m).map pr) (m - k) G' 0 0 ∧ ∀ x, x < k → G' (adr x) = [] := by
  obtain ⟨pos, hs, hl⟩ := R_step k m hk hm
  have hlen : (R (k + 1) m).length = m - (k + 1) := by
    have := R_length m hm (m - (k + 1)) (by omega)
    rwa [show m - (m - (k + 1)) = k + 1 by omega] at this
  refine (hold_next W sb tb rb lb' B (m - (k + 1)) pos topic start _ G 0 0 (pr k) w ht h (by rw [List.length_map, hlen]; omega) (by omega) (by show (G (adr k)).length ≤ 1000; rw [hG k (by omega)]; simp) (adr_named k) (by show (adr k).size ≤ _; rw [adr_size]; unfold maxLen; omega) (Rm_ln _ _) ⟨Int.le_of_lt (ln_range k (by omega)).1, (ln_range k (by omega)).2⟩ hs).mono ?_
  rintro e w' ⟨rfl, h'⟩
  rw [hl] at h'
  have e1 : (if (G (pr k).a).isEmpty = true then m - (k + 1) + 1 else m - (k + 1)) = m - k := by
    show (if (G (adr k)).isEmpty = true then _ else _) = _
    rw [hG k (by omega)]; simp; omega
  rw [e1] at h'
  refine ⟨rfl, _, h', fun x hx => ?_⟩
  show (if adr x = adr k then _ else _) = _
  rw [if_neg (adr_ne (by omega) (by omega) (by omega)), hG x (by omega)]

theorem hold_top (W : World) (sb tb m : Nat) (topic : ByteArray) (start : Int) (w : World) (ht : topic.size ≤ maxLen) (hm : m + 1 ≤ 40) (hbel : Below W.heap.size W w) (hsb : W.heap.size ≤ sb) (htb : W.heap.size ≤ tb) (hsl : sb < w.heap.size)
    (sblk : w.heap[sb]? = some (.cells #[.map (some tb), .int .u64 start] 55 (0, 0))) (tmap : MapAt w tb (fun _ => none) 0) :
    Calls Ybaz.prog 6 #[.pointer (some ⟨sb, 0, none⟩), .string topic, .agg #[.string (adr m), .int .u64 (lb m), .int .u8 (ln m)]] w fun e w' => e = .returned (.tuple #[]) ∧
      ∃ rb lb' B G', St W w' sb tb rb lb' B topic start ((R m (m + 1)).map pr) (m + 1 - m) G' 0 0 ∧ ∀ x, x < m → G' (adr x) = [] := by
  refine (hold_first W sb tb topic start (pr m) w ht hbel hsb htb hsl sblk tmap (adr_named m) (by show (adr m).size ≤ _; rw [adr_size]; unfold maxLen; omega) ⟨Int.le_of_lt (ln_range m (by omega)).1, (ln_range m (by omega)).2⟩).mono ?_
  rintro e w' ⟨rfl, rb, lb', B, h'⟩
  have e0 : R m (m + 1) = [m] := by
    obtain ⟨A, B', h1, h2, _, _⟩ := R_split m (m + 1) (by omega) hm
    rw [R_top] at h1
    obtain ⟨hA, hB⟩ := List.append_eq_nil_iff.1 h1.symm
    rw [h2, hA, hB]; rfl
  refine ⟨rfl, rb, lb', B, (fun x => if x = adr m then [(lb m, ln m)] else []), ?_, ?_⟩
  · rw [e0, show m + 1 - m = 1 by omega]; exact h'
  · intro x hx
    show (if adr x = adr m then _ else _) = _
    rw [if_neg (adr_ne (by omega) (by omega) (by omega))]

theorem clean (m : Nat) (h0 : 0 < m) (hm : m ≤ 40) : read.Clean (Lm m) (num m) where
  pos := by rw [Lm_length m hm]; exact h0
  le := by rw [Lm_length m hm]; omega
  named := fun j hj => by rw [Lm_length m hm] at hj; rw [nth_Lm m j hm hj]; exact adr_named _
  small := fun j hj => by rw [Lm_length m hm] at hj ⊢; exact (num_lt m j hm hj).1
  num := fun j wx hj => by
    rw [Lm_length m hm] at hj; rw [nth_Lm m j hm hj]
    exact number_any (num m j) (num_lt m j hm hj).2 wx

def turnB (m j : Nat) : Int := if j = 0 then 0 else lb (num m ((j - 1) % m))
def turnN (m j : Nat) : Int := if j = 0 then 0 else ln (num m ((j - 1) % m))
def lft (m i : Nat) : Pr := if m = 1 then zp else pr (num m ((i + m - 1) % m))
def rgt (m i : Nat) : Pr := if m = 1 then zp else pr (num m ((i + 1) % m))

theorem next_step (B rb lb' g c m j : Nat) (G : ByteArray → List (Int × Int)) (start : Int) (f : ByteArray → Option Value) (wx : World) (h0 : 0 < m) (hm : m ≤ 40) (hr : Ros wx B rb lb' (Lm m) (Lm m).length G (turnB m j) (turnN m j) start (.slice (some ⟨g, 0, none⟩) (Lm m).length c) f) :
    Calls Ybaz.prog 21 #[.pointer (some ⟨rb, 0, none⟩), .agg #[.int .u64 (turnB m j), .int .u8 (turnN m j)]] wx fun e w' => e = .returned (.int .i64 ((j % m : Nat) : Int)) ∧ Below wx.heap.size wx w' := by
  have hL := Lm_length m hm
  rcases Nat.eq_zero_or_pos j with rfl | hj
  · have : Calls Ybaz.prog 21 #[.pointer (some ⟨rb, 0, none⟩), .agg #[.int .u64 0, .int .u8 0]] wx fun e w' => e = .returned (.int .i64 0) ∧ Below wx.heap.size wx w' :=
      next_none rb wx (fun wy => (labelNone 0 0 wy).mono fun e w' h => ⟨h.1, h.2 ▸ (Below.refl _ _).alloc (Nat.le_refl _) _⟩)
    simpa [turnB, turnN] using this
  · have hp : (j - 1) % m < m := Nat.mod_lt _ h0
    have eB : turnB m j = lb (num m ((j - 1) % m)) := by rw [turnB, if_neg (by omega)]
    have eN : turnN m j = ln (num m ((j - 1) % m)) := by rw [turnN, if_neg (by omega)]
    rw [eB, eN] at hr ⊢
    have hnl := num_lt m _ hm hp
    have hlr := ln_range _ hnl.2
    refine next_some rb g c (Lm m).length ((j - 1) % m) (j % m) _ _ wx (by simp [World.cell?, hr.blk]) (by omega) (by omega) (by omega) ?_ (fun wy => ?_) (fun wy hb => ?_)
    · rw [hL, Nat.mod_add_mod, show j - 1 + 1 = j by omega]
    · refine (labelNone (lb (num m ((j - 1) % m))) (ln (num m ((j - 1) % m))) wy).mono fun e w' h => ⟨?_, h.2 ▸ (Below.refl _ _).alloc (Nat.le_refl _) _⟩
      rw [h.1]
      have : (ln (num m ((j - 1) % m)) == 0) = false := by rw [beq_eq_false_iff_ne]; omega
      rw [this]
    · have hx := hr.later hb
      refine search_any rb _ (Lm m).length ((j - 1) % m) (nth (Lm m)) _ _ true wy (by omega) (ring_of hx.own) (fun q hq => Lm_ln m _ (nth_mem _ _ hq)) ⟨Int.le_of_lt hlr.1, hlr.2⟩ (sought_at m _ hm hp) (by simp [World.cell?, hx.blk])

theorem cfg_step (B rb lb' g c m i : Nat) (G : ByteArray → List (Int × Int)) (t0 t1 start : Int) (f : ByteArray → Option Value) (topic : ByteArray) (turn : Bool) (wx : World) (hm : m ≤ 40) (hi : i < m) (hr : Ros wx B rb lb' (Lm m) (Lm m).length G t0 t1 start (.slice (some ⟨g, 0, none⟩) (Lm m).length c) f) :
    Calls Ybaz.prog 22 #[.pointer (some ⟨rb, 0, none⟩), .string topic, .int .i64 i, .bool turn] wx fun e w' => e = .returned (.agg #[.string (nth (Lm m) i).a, .iface 41 (.agg (cfg topic (lft m i) (nth (Lm m) i).b (nth (Lm m) i).n (rgt m i) start turn))]) ∧ Below wx.heap.size wx w' := by
  have hL := Lm_length m hm
  refine config_any rb g c (Lm m).length i (nth (Lm m)) (lft m i) (rgt m i) topic start turn wx (by simp [World.cell?, hr.blk]) (by simp [World.cell?, hr.blk]) (by omega) (by omega) (row_of hr.own) (fun wy hb => ?_) (fun wy hb => ?_)
  · have hx := hr.later hb
    have hc : wy.cell? ⟨rb, 0, none⟩ = some (.slice (some ⟨g, 0, none⟩) (Lm m).length c) := by simp [World.cell?, hx.blk]
    by_cases h1 : m = 1
    · obtain rfl : i = 0 := by omega
      rw [hL, h1] at hc
      rw [lft, if_pos h1]
      exact neigh_one rb g c (-1) (.inl rfl) wy hc
    · rw [lft, if_neg h1]
      have hj : (i + m - 1) % m < m := Nat.mod_lt _ (by omega)
      have hne : (i + m - 1) % m ≠ i := by
        rcases Nat.eq_zero_or_pos i with rfl | hp
        · rw [Nat.zero_add, Nat.mod_eq_of_lt (by omega)]; omega
        · rw [show i + m - 1 = (i - 1) + m by omega, Nat.add_mod_right, Nat.mod_eq_of_lt (by omega)]; omega
      have := neigh_many rb g c (Lm m).length i ((i + m - 1) % m) (nth (Lm m)) (-1) (.inl rfl) wy hc (by omega) (by omega) (by omega) (by omega) hne
        (by rw [hL, Int.tmod_eq_emod_of_nonneg (by omega), show (i : Int) + -1 + m = ((i + m - 1 : Nat) : Int) by omega]; rfl) (row_of hx.own)
        (by rw [nth_Lm m _ hm hj]; exact adr_named _)
        (by rw [nth_Lm m _ hm hj, nth_Lm m _ hm hi]; exact adr_diff (num_lt m _ hm hj).2 (num_lt m _ hm hi).2 (num_ne m _ _ hm hne hj hi))
      rw [nth_Lm m _ hm hj] at this
      exact this
  · have hx := hr.later hb
    have hc : wy.cell? ⟨rb, 0, none⟩ = some (.slice (some ⟨g, 0, none⟩) (Lm m).length c) := by simp [World.cell?, hx.blk]
    by_cases h1 : m = 1
    · obtain rfl : i = 0 := by omega
      rw [hL, h1] at hc
      rw [rgt, if_pos h1]
      exact neigh_one rb g c 1 (.inr rfl) wy hc
    · rw [rgt, if_neg h1]
      have hj : (i + 1) % m < m := Nat.mod_lt _ (by omega)
      have hne : (i + 1) % m ≠ i := by
        rcases Nat.lt_or_ge (i + 1) m with hp | hp
        · rw [Nat.mod_eq_of_lt hp]; omega
        · rw [show i + 1 = m by omega, Nat.mod_self]; omega
      have := neigh_many rb g c (Lm m).length i ((i + 1) % m) (nth (Lm m)) 1 (.inr rfl) wy hc (by omega) (by omega) (by omega) (by omega) hne
        (by rw [hL, Int.tmod_eq_emod_of_nonneg (by omega), show (i : Int) + 1 + m = ((i + 1 + m : Nat) : Int) by omega, ← Nat.add_mod_right (i + 1) m]; rfl) (row_of hx.own)
        (by rw [nth_Lm m _ hm hj]; exact adr_named _)
        (by rw [nth_Lm m _ hm hj, nth_Lm m _ hm hi]; exact adr_diff (num_lt m _ hm hj).2 (num_lt m _ hm hi).2 (num_ne m _ _ hm hne hj hi))
      rw [nth_Lm m _ hm hj] at this
      exact this

theorem tick_step (W : World) (sb tb rb lb' B g c m j : Nat) (topic : ByteArray) (start : Int) (G : ByteArray → List (Int × Int)) (f : ByteArray → Option Value) (w : World) (ht : topic.size ≤ maxLen) (h0 : 0 < m) (hm : m ≤ 40)
    (h : St W w sb tb rb lb' B topic start (Lm m) (Lm m).length G (turnB m j) (turnN m j)) (hr : Ros w B rb lb' (Lm m) (Lm m).length G (turnB m j) (turnN m j) start (.slice (some ⟨g, 0, none⟩) (Lm m).length c) f) :
    Calls Ybaz.prog 10 #[.pointer (some ⟨sb, 0, none⟩), .pointer none] w fun e w' => ∃ g' c', e = .returned (.slice (some ⟨g', 0, none⟩) 1 c') ∧ w'.cell? ⟨g', 0, none⟩ = some (.string (nth (Lm m) (j % m)).a) ∧ w'.cell? ⟨g', 1, none⟩ = some (.iface 41 (.agg (cfg topic (lft m (j % m)) (nth (Lm m) (j % m)).b (nth (Lm m) (j % m)).n (rgt m (j % m)) start true))) ∧
      Ros w' B rb lb' (Lm m) (Lm m).length G (turnB m (j + 1)) (turnN m (j + 1)) start (.slice (some ⟨g, 0, none⟩) (Lm m).length c) f ∧ Turned (fun k => k = rb ∨ k = g) w w' := by
  have hL := Lm_length m hm
  have hi : j % m < m := Nat.mod_lt _ h0
  have eB : (nth (Lm m) (j % m)).b = turnB m (j + 1) := by rw [nth_Lm m _ hm hi, turnB, if_neg (by omega)]; rfl
  have eN : (nth (Lm m) (j % m)).n = turnN m (j + 1) := by rw [nth_Lm m _ hm hi, turnN, if_neg (by omega)]; rfl
  have := tick_any W sb tb rb lb' B g c (j % m) topic start (Lm m) (num m) G (turnB m j) (turnN m j) (cfg topic (lft m (j % m)) (nth (Lm m) (j % m)).b (nth (Lm m) (j % m)).n (rgt m (j % m)) start true) f w ht h hr (clean m h0 hm) (by omega)
    (fun wx hx => next_step B rb lb' g c m j G start f wx h0 hm hx) (fun wx hx => cfg_step B rb lb' g c m (j % m) G _ _ start f topic true wx hm hi hx)
  refine this.mono ?_
  rintro e w' ⟨g', c', rfl, h1, h2, h3, h4⟩
  exact ⟨g', c', rfl, h1, h2, eB ▸ eN ▸ h3, h4⟩

end Go.Proofs.YbulkclxkGreat.lawS4391CRoundRobin
