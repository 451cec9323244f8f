/-
  CONTRACTS OF slices.Index[[]string,string] (7), desc.fileIndex (5) AND desc.zzs4396cmodel (6) over the dump 'ybulkcmac': 'the first entry that equals x is number r' | 'none does' | 'there is no entry'.
-/
import Derived.Test.YbulkcmacRows
import Derived.WalkKit
import Derived.ProofKit
import Derived.RegionTactic
import Derived.WalkSpells
import Derived.WalkLawsBesides
import Derived.Below
import Derived.LoopTactic
namespace Go.Proofs.Ybulkcmac.index
open Go.ChangeShapes Go.WideShapes Go.ChangeAt Go.RowKit
set_option linter.unusedVariables false

/-- 'x == y' on strings, as the walk writes it. -/
theorem beq_flip (x y : ByteArray) : (x.toList == y.toList) = (y.toList == x.toList) := by
  rw [Bool.eq_iff_iff, beq_iff_eq, beq_iff_eq]
  exact eq_comm

set_option maxHeartbeats 1000000 in
theorem idx_hit (b off len cap r : Nat) (S : Nat → ByteArray) (x : ByteArray) (w : World) (hl : len ≤ 1024) (hr : r < len) (hx : (x.toList == (S r).toList) = true) (hn : ∀ j, j < r → (x.toList == (S j).toList) = false)
    (hc : ∀ j, j < len → w.cell? ⟨b, off + j, none⟩ = some (.string (S j))) :
    Calls Yba.prog 7 #[.slice (some ⟨b, off, none⟩) len cap, .string x] w fun e w' => e = .returned (.int .i64 r) ∧ w' = w := by
  have HC : Hid (∀ j, j < len → w.cell? ⟨b, off + j, none⟩ = some (.string (S j))) := hc
  have HN : Hid (∀ j, j < r → (x.toList == (S j).toList) = false) := hn
  have HX : Hid ((x.toList == (S r).toList) = true) := hx
  clear hc hn hx
  go_enter Yba.func7, Yba.ntmps7
  go_wp2
  go_loop [5, 8] (fun _ i => ∃ k : Nat, k ≤ r ∧ i = .int .i64 k) (fun _ i => len - (intOf i).toNat)
  case atStart => exact ⟨0, Nat.zero_le _, rfl⟩
  case round =>
    obtain ⟨k, hk, rfl⟩ := hrel
    have g := HC.out k (by omega)
    have i1 : (k : Int) < (len : Int) := by omega
    by_cases hkr : k < r
    · have t : (x.toList == (S k).toList) = false := HN.out k (by omega)
      go_wp2
      go_round
      case rel => exact ⟨k + 1, by omega, by go_num⟩
      case measure => simp [intOf]; omega
    · obtain rfl : k = r := by omega
      have t : (x.toList == (S k).toList) = true := HX.out
      clear HX HN
      go_wp2
      go_ret
      exact ⟨rfl, rfl⟩

set_option maxHeartbeats 1000000 in
theorem idx_miss (b off len cap : Nat) (S : Nat → ByteArray) (x : ByteArray) (w : World) (hl : len ≤ 1024) (hn : ∀ j, j < len → (x.toList == (S j).toList) = false)
    (hc : ∀ j, j < len → w.cell? ⟨b, off + j, none⟩ = some (.string (S j))) :
    Calls Yba.prog 7 #[.slice (some ⟨b, off, none⟩) len cap, .string x] w fun e w' => e = .returned (.int .i64 (-1)) ∧ w' = w := by
  have HC : Hid (∀ j, j < len → w.cell? ⟨b, off + j, none⟩ = some (.string (S j))) := hc
  have HN : Hid (∀ j, j < len → (x.toList == (S j).toList) = false) := hn
  clear hc hn
  go_enter Yba.func7, Yba.ntmps7
  go_wp2
  go_loop [5, 8] (fun _ i => ∃ k : Nat, k ≤ len ∧ i = .int .i64 k) (fun _ i => len - (intOf i).toNat)
  case atStart => exact ⟨0, Nat.zero_le _, rfl⟩
  case round =>
    obtain ⟨k, hk, rfl⟩ := hrel
    by_cases hkr : k < len
    · have g := HC.out k (by omega)
      have i1 : (k : Int) < (len : Int) := by omega
      have t : (x.toList == (S k).toList) = false := HN.out k (by omega)
      go_wp2
      go_round
      case rel => exact ⟨k + 1, by omega, by go_num⟩
      case measure => simp [intOf]; omega
    · go_wp2
      go_ret
      exact ⟨rfl, rfl⟩

set_option maxHeartbeats 1000000 in
theorem idx_none (a : Option Addr) (cap : Nat) (x : ByteArray) (w : World) :
    Calls Yba.prog 7 #[.slice a 0 cap, .string x] w fun e w' => e = .returned (.int .i64 (-1)) ∧ w' = w := by
  go_enter Yba.func7, Yba.ntmps7
  go_wp2
  refine wp_loop_rounds 1 ?_
  rw [rounds_succ]
  go_wp2
  go_ret
  exact ⟨rfl, rfl⟩

set_option maxHeartbeats 1000000 in
theorem mod_hit (b off len cap r : Nat) (S : Nat → ByteArray) (x : ByteArray) (w : World) (hl : len ≤ 1024) (hr : r < len) (hx : (x.toList == (S r).toList) = true) (hn : ∀ j, j < r → (x.toList == (S j).toList) = false)
    (hc : ∀ j, j < len → w.cell? ⟨b, off + j, none⟩ = some (.string (S j))) :
    Calls Yba.prog 6 #[.slice (some ⟨b, off, none⟩) len cap, .string x] w fun e w' => e = .returned (.int .i64 r) ∧ w' = w := by
  have HC : Hid (∀ j, j < len → w.cell? ⟨b, off + j, none⟩ = some (.string (S j))) := hc
  have HN : Hid (∀ j, j < r → (x.toList == (S j).toList) = false) := hn
  have HX : Hid ((x.toList == (S r).toList) = true) := hx
  clear hc hn hx
  go_enter Yba.func6, Yba.ntmps6
  go_wp2
  go_loop [5] (fun  i => ∃ k : Nat, k ≤ r ∧ i = .int .i64 k) (fun  i => len - (intOf i).toNat)
  case atStart => exact ⟨0, Nat.zero_le _, rfl⟩
  case round =>
    obtain ⟨k, hk, rfl⟩ := hrel
    have g := HC.out k (by omega)
    have i1 : (k : Int) < (len : Int) := by omega
    by_cases hkr : k < r
    · have t : ((S k).toList == x.toList) = false := ((beq_flip _ _).trans (HN.out k (by omega)))
      go_wp2
      go_round
      case rel => exact ⟨k + 1, by omega, by go_num⟩
      case measure => simp [intOf]; omega
    · obtain rfl : k = r := by omega
      have t : ((S k).toList == x.toList) = true := ((beq_flip _ _).trans HX.out)
      clear HX HN
      go_wp2
      go_ret
      exact ⟨rfl, rfl⟩

set_option maxHeartbeats 1000000 in
theorem mod_miss (b off len cap : Nat) (S : Nat → ByteArray) (x : ByteArray) (w : World) (hl : len ≤ 1024) (hn : ∀ j, j < len → (x.toList == (S j).toList) = false)
    (hc : ∀ j, j < len → w.cell? ⟨b, off + j, none⟩ = some (.string (S j))) :
    Calls Yba.prog 6 #[.slice (some ⟨b, off, none⟩) len cap, .string x] w fun e w' => e = .returned (.int .i64 len) ∧ w' = w := by
  have HC : Hid (∀ j, j < len → w.cell? ⟨b, off + j, none⟩ = some (.string (S j))) := hc
  have HN : Hid (∀ j, j < len → (x.toList == (S j).toList) = false) := hn
  clear hc hn
  go_enter Yba.func6, Yba.ntmps6
  go_wp2
  go_loop [5] (fun  i => ∃ k : Nat, k ≤ len ∧ i = .int .i64 k) (fun  i => len - (intOf i).toNat)
  case atStart => exact ⟨0, Nat.zero_le _, rfl⟩
  case round =>
    obtain ⟨k, hk, rfl⟩ := hrel
    by_cases hkr : k < len
    · have g := HC.out k (by omega)
      have i1 : (k : Int) < (len : Int) := by omega
      have t : ((S k).toList == x.toList) = false := ((beq_flip _ _).trans (HN.out k (by omega)))
      go_wp2
      go_round
      case rel => exact ⟨k + 1, by omega, by go_num⟩
      case measure => simp [intOf]; omega
    · go_wp2
      go_ret
      exact ⟨rfl, rfl⟩

set_option maxHeartbeats 1000000 in
theorem mod_none (a : Option Addr) (cap : Nat) (x : ByteArray) (w : World) :
    Calls Yba.prog 6 #[.slice a 0 cap, .string x] w fun e w' => e = .returned (.int .i64 0) ∧ w' = w := by
  go_enter Yba.func6, Yba.ntmps6
  go_wp2
  refine wp_loop_rounds 1 ?_
  rw [rounds_succ]
  go_wp2
  go_ret
  exact ⟨rfl, rfl⟩

set_option maxHeartbeats 1000000 in
theorem file_hit (b off len cap r : Nat) (S : Nat → ByteArray) (x : ByteArray) (w : World) (hl : len ≤ 1024) (hr : r < len) (hx : (x.toList == (S r).toList) = true) (hn : ∀ j, j < r → (x.toList == (S j).toList) = false)
    (hc : ∀ j, j < len → w.cell? ⟨b, off + j, none⟩ = some (.string (S j))) :
    Calls Yba.prog 5 #[.slice (some ⟨b, off, none⟩) len cap, .string x] w fun e w' => e = .returned (.int .i64 r) ∧ w' = w := by
  have i1 : (0 : Int) ≤ (r : Int) := by omega
  have H := idx_hit b off len cap r S x w hl hr hx hn hc
  clear hx hn hc
  go_enter Yba.func5, Yba.ntmps5
  go_wp2_with (go_at_call 7; refine H.mono ?_; rintro e w' ⟨rfl, rfl⟩)
  go_ret
  exact ⟨rfl, rfl⟩

set_option maxHeartbeats 1000000 in
theorem file_miss (b off len cap : Nat) (S : Nat → ByteArray) (x : ByteArray) (w : World) (hl : len ≤ 1024) (hn : ∀ j, j < len → (x.toList == (S j).toList) = false)
    (hc : ∀ j, j < len → w.cell? ⟨b, off + j, none⟩ = some (.string (S j))) :
    Calls Yba.prog 5 #[.slice (some ⟨b, off, none⟩) len cap, .string x] w fun e w' => e = .returned (.int .i64 len) ∧ w' = w := by
  have H := idx_miss b off len cap S x w hl hn hc
  clear hn hc
  go_enter Yba.func5, Yba.ntmps5
  go_wp2_with (go_at_call 7; refine H.mono ?_; rintro e w' ⟨rfl, rfl⟩)
  go_ret
  exact ⟨rfl, rfl⟩

set_option maxHeartbeats 1000000 in
theorem file_none (a : Option Addr) (cap : Nat) (x : ByteArray) (w : World) :
    Calls Yba.prog 5 #[.slice a 0 cap, .string x] w fun e w' => e = .returned (.int .i64 0) ∧ w' = w := by
  go_enter Yba.func5, Yba.ntmps5
  go_wp2_with (go_at_call 7; refine (idx_none a cap x w).mono ?_; rintro e w' ⟨rfl, rfl⟩)
  go_ret
  exact ⟨rfl, rfl⟩

/-- Of any list there is a first entry that equals x, or none. -/
theorem first_or_none (S : Nat → ByteArray) (x : ByteArray) : ∀ len : Nat, (∃ r, r < len ∧ (x.toList == (S r).toList) = true ∧ ∀ j, j < r → (x.toList == (S j).toList) = false) ∨ ∀ j, j < len → (x.toList == (S j).toList) = false
  | 0 => .inr (fun j h => by omega)
  | len + 1 => by
    rcases first_or_none S x len with ⟨r, hr, h⟩ | h
    · exact .inl ⟨r, by omega, h⟩
    · cases hx : (x.toList == (S len).toList) with
      | true => exact .inl ⟨len, by omega, hx, h⟩
      | false =>
        refine .inr (fun j hj => ?_)
        by_cases e : j = len
        · subst e; exact hx
        · exact h j (by omega)

end Go.Proofs.Ybulkcmac.index
