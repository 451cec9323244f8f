/-
  PROOF OF 'Rows.LawS4396CFirstSaid'. The frame after the seats' shells, turned by hand for a slice of strings; the walks over the contracts in YbulkcmacIndex.
-/
import Derived.Test.YbulkcmacRows
import Derived.Test.YbulkcmacIndex
import Derived.WalkKit
import Derived.ProofKit
import Derived.OpenShut
import Derived.ShutString
import Derived.ChangeOld
import Derived.Below
import Derived.SliceStrings
import Derived.OwnWalk
import Derived.LoopTactic
import Derived.Deep.QuietTactic
import Derived.BigQuiet
import Derived.Laws.CopyOwn
namespace Go.Proofs.Ybulkcmac.lawS4396CFirst
open Go.ChangeShapes Go.WideShapes Go.ChangeAt Go.RowKit
open Go.ChangeMaps (open_string shut_string)
set_option linter.unusedVariables false

theorem own : ownKnob Yba.prog.godebug = none := by kernel_rfl
theorem laidOut : laidOutB Yba.prog = true := by kernel_rfl

/-- WHAT THE WALK IS TOLD OF A SLICE OF STRINGS THAT CAME IN: it is nil; or it leads to a row of 'cap' cells, the strings 'ss' (the first 'len' are its elements). -/
def IsRowS (w : World) (a : Option Addr) (len cap : Nat) (ss : List ByteArray) : Prop :=
  (a = none ∧ len = 0 ∧ cap = 0 ∧ ss = []) ∨
  ∃ x, a = some x ∧ len ≤ cap ∧ cap ≤ maxLen ∧ ss.length = cap ∧ ∀ i, i < ss.length → w.cell? (x.add i) = some (.string (ss.getD i ByteArray.empty))

theorem info9 : (Yba.prog.info? 9).map (fun i => (i.zero, i.size, i.bytes)) = some (some (.string ByteArray.empty), 1, 16) := by kernel_rfl

def strsOf (S : Nat → ByteArray) (n : Nat) : List Value := (List.range n).map (fun j => Value.string (S j))
theorem strsOf_at (S : Nat → ByteArray) (n j : Nat) (h : j < n) : (strsOf S n)[j]? = some (.string (S j)) := by
  simp [strsOf, h]
theorem strsOf_length (S : Nat → ByteArray) (n : Nat) : (strsOf S n).length = n := by simp [strsOf]
theorem strsOf_one (S : Nat → ByteArray) (n : Nat) : ∀ u ∈ strsOf S n, u.oneCell' = true := by
  intro u hu
  obtain ⟨j, _, rfl⟩ := List.mem_map.1 hu
  rfl

theorem block_of {w : World} {base g n : Nat} {xs : List Value} (h : w.ownsRow base 9 1 (.slice (some ⟨g, 0, none⟩) n n) n xs) : ∃ cur : List Value, w.heap[g]? = some (.cells cur.toArray 9 (0, 0)) ∧ cur.length = n := by
  rcases h.2 with ⟨h', _⟩ | ⟨g', cap', cur, h', _, hg, _, _, hs, htake⟩
  · simp at h'
  · simp only [Value.slice.injEq, Option.some.injEq, Addr.mk.injEq, and_true, true_and] at h'
    obtain ⟨rfl, rfl⟩ := h'
    exact ⟨cur.toList, by simpa using hg, by simpa using hs⟩

theorem copied {w2 : World} {g n : Nat} {S : Nat → ByteArray} {cur : List Value} (hl : cur.length = n) (h : Hid (w2.heap[g]? = some (.cells (splice cur 0 (strsOf S n)).toArray 9 (0, 0)))) :
    ∀ j, j < n → w2.cell? ⟨g, 0 + j, none⟩ = some (.string (S j)) := by
  intro j hj
  have e : splice cur 0 (strsOf S n) = strsOf S n := by
    simp [splice, strsOf_length, ← hl]
  have h1 : w2.heap[g]? = some (.cells (strsOf S n).toArray 9 (0, 0)) := by rw [← e]; exact h
  rw [Nat.zero_add]
  simp [World.cell?, h1, strsOf_at S n j hj]

theorem src_lies {w w' : World} {b off len : Nat} {S : Nat → ByteArray} (hb : Below w.heap.size w w') (h : ∀ j, j < len → w.cell? ⟨b, off + j, none⟩ = some (.string (S j))) :
    ∀ j u, (strsOf S len)[j]? = some u → w'.cell? ((⟨b, off, none⟩ : Addr).add j) = some u := by
  intro j u hu
  have hj : j < len := by have := (List.getElem?_eq_some_iff.1 hu).1; rwa [strsOf_length] at this
  rw [strsOf_at S len j hj] at hu
  have h1 := h j hj
  rw [add_plain, hb.cell (p := ⟨b, off + j, none⟩) (World.block_lt_of_cell? _ _ h1), h1]
  exact hu

theorem bytes_bd (a len : Int) (h0 : 0 ≤ a) (h1 : 0 < len) : 0 ≤ a % len ∧ a % len < len := ⟨Int.emod_nonneg _ (by omega), Int.emod_lt_of_pos _ h1⟩

set_option maxHeartbeats 2000000 in
theorem walk_odd_hit (b off len cap r : Nat) (S : Nat → ByteArray) (p : Int) (x : ByteArray) (w : World) (hl : 0 < len) (hl' : len ≤ 1024) (up : 0 ≤ p ∧ p ≤ 255)
    (he : (p % 2 == 0) = false) (hr : r < len) (hx : (x.toList == (S r).toList) = true) (hn : ∀ j, j < r → (x.toList == (S j).toList) = false)
    (hc : ∀ j, j < len → w.cell? ⟨b, off + j, none⟩ = some (.string (S j))) :
    Calls Yba.prog 4 #[.slice (some ⟨b, off, none⟩) len cap, .int .u8 p, .string x] w fun e w' => e = .returned (.bool true) ∧ Below w.heap.size w w' := by
  obtain ⟨i0, hi, hz0, hz1, hz2⟩ := info_parts info9
  have hd1 : ¬ (1024 : Int) < (len : Int) := by omega
  have hd0 : (0 : Int) < (len : Int) := by omega
  have hlt : b < w.heap.size := World.block_lt_of_cell? _ _ (hc 0 hl)
  have HC : Hid (∀ j, j < len → w.cell? ⟨b, off + j, none⟩ = some (.string (S j))) := hc
  clear hc
  have HX : Hid ((x.toList == (S r).toList) = true) := hx
  have HN : Hid (∀ j, j < r → (x.toList == (S j).toList) = false) := hn
  clear hx hn
  go_enter Yba.func4, Yba.ntmps4
  go_wp2_with (at_make; refine wpList_make_full _ rfl _ _ 22 rfl w.heap.size 9 i0 (.string ByteArray.empty) 1 Yba.underlying22 hi hz0 hz1 _ _ _ _ len rfl rfl (by omega) (by omega) (by rw [hz2]; omega) (by unfold maxLen; omega) (Nat.le_refl _) ?_)
  intro w0 hown0 hgrow0
  obtain ⟨cur, hcur, hcl⟩ := block_of hown0
  have hb0 : Below w.heap.size w w0 := (Below.refl _ _).grown hgrow0 (Nat.le_refl _) (by simp)
  have HCUR : Hid (w0.heap[w.heap.size]? = some (.cells cur.toArray 9 (0, 0))) := hcur
  have HCL : Hid (cur.length = len) := hcl
  clear hown0 hgrow0 hcur hcl
  go_wp2_with ((with_reducible show Go.wpList _ _ _ _ _ _); refine wpList_copy_splice rfl (.tmp 19) (.tmp 20) 22 22 rfl 9 Yba.underlying22 (by kernel_rfl) _ _ _ _ _ _ rfl rfl w.heap.size 0 cur 9 HCUR.out (strsOf S len) (by rw [strsOf_length]; exact (Nat.min_self len).symm) (fun _ => ⟨rfl, _, rfl, src_lies hb0 HC.out⟩) (by rw [strsOf_length, HCL.out]; omega) (strsOf_one S len) w.heap.size w hb0 (Nat.le_refl _) ?_; intro w2 hg2 hb2; have hcp : Hid (∀ j, j < len → w2.cell? ⟨w.heap.size, 0 + j, none⟩ = some (.string (S j))) := copied HCL.out hg2; clear hg2)
  have HCP : Hid ( ∀ j, j < len → w2.cell? ⟨w.heap.size, j, none⟩ = some (.string (S j))) := fun j hj => by have := hcp.out j hj; rwa [Nat.zero_add] at this
  have HCS : Hid ( ∀ j, j < len → w2.cell? ⟨b, off + j, none⟩ = some (.string (S j))) := fun j hj => (hb2.cell (p := ⟨b, off + j, none⟩) hlt).trans (HC.out j hj)
  refine (index.file_hit w.heap.size 0 len len r S x w2 hl' hr HX.out HN.out hcp.out).mono ?_
  rintro e w3 ⟨rfl, rfl⟩
  have r0 : ¬ (r : Int) < 0 := by omega
  have r1 : ¬ (len : Int) < (r : Int) := by omega
  go_wp2
  go_loop [10] (fun i => ∃ k : Nat, k ≤ r ∧ i = .int .i64 k) (fun i => r - (intOf i).toNat)
  case atStart => exact ⟨0, Nat.zero_le _, rfl⟩
  case round =>
    obtain ⟨k, hk, rfl⟩ := hrel
    have g := HCP.out k (by omega)
    have i1 : (k : Int) < (len : Int) := by omega
    by_cases hkr : k < r
    · have t : ((S k).toList == x.toList) = false := (index.beq_flip _ _).trans (HN.out k hkr)
      go_wp2
      go_round
      case rel => exact ⟨k + 1, by omega, by go_num⟩
      case measure => simp [intOf]; omega
    · obtain rfl : k = r := by omega
      have t : ((S k).toList == x.toList) = true := (index.beq_flip _ _).trans HX.out
      have t' : ((S k).toList != x.toList) = false := by rw [bne, t]; rfl
      go_wp2
      have CP := HCP.out
      have CS := HCS.out
      go_loopw [12] (fun i wr => ∃ k n : Nat, k ≤ len ∧ i = .int .i64 k ∧ wr = w3.drewN n) (fun i _ => len - (intOf i).toNat)
      case atStart => exact ⟨0, 0, Nat.zero_le _, rfl, rfl⟩
      case round =>
        obtain ⟨k, n, hk, rfl, rfl⟩ := hrel
        by_cases hkl : k < len
        · have g1 := CP k hkl
          have g2 := CS k hkl
          have i1 : (k : Int) < (len : Int) := by omega
          go_wp2
          go_quiet (fail)
          go_wp2
          go_roundw
          case rel => exact ⟨k + 1, _, by omega, by go_num, rfl⟩
          case measure => simp [intOf]; omega
        · go_wp2
          go_ret
          exact ⟨rfl, below_drewN hb2 _⟩

set_option maxHeartbeats 2000000 in
theorem walk_odd_miss (b off len cap : Nat) (S : Nat → ByteArray) (p : Int) (x : ByteArray) (w : World) (hl : 0 < len) (hl' : len ≤ 1024) (up : 0 ≤ p ∧ p ≤ 255)
    (he : (p % 2 == 0) = false) (hn : ∀ j, j < len → (x.toList == (S j).toList) = false)
    (hc : ∀ j, j < len → w.cell? ⟨b, off + j, none⟩ = some (.string (S j))) :
    Calls Yba.prog 4 #[.slice (some ⟨b, off, none⟩) len cap, .int .u8 p, .string x] w fun e w' => e = .returned (.bool true) ∧ Below w.heap.size w w' := by
  obtain ⟨i0, hi, hz0, hz1, hz2⟩ := info_parts info9
  have hd1 : ¬ (1024 : Int) < (len : Int) := by omega
  have hd0 : (0 : Int) < (len : Int) := by omega
  have hlt : b < w.heap.size := World.block_lt_of_cell? _ _ (hc 0 hl)
  have HC : Hid (∀ j, j < len → w.cell? ⟨b, off + j, none⟩ = some (.string (S j))) := hc
  clear hc
  have HN : Hid (∀ j, j < len → (x.toList == (S j).toList) = false) := hn
  clear hn
  go_enter Yba.func4, Yba.ntmps4
  go_wp2_with (at_make; refine wpList_make_full _ rfl _ _ 22 rfl w.heap.size 9 i0 (.string ByteArray.empty) 1 Yba.underlying22 hi hz0 hz1 _ _ _ _ len rfl rfl (by omega) (by omega) (by rw [hz2]; omega) (by unfold maxLen; omega) (Nat.le_refl _) ?_)
  intro w0 hown0 hgrow0
  obtain ⟨cur, hcur, hcl⟩ := block_of hown0
  have hb0 : Below w.heap.size w w0 := (Below.refl _ _).grown hgrow0 (Nat.le_refl _) (by simp)
  have HCUR : Hid (w0.heap[w.heap.size]? = some (.cells cur.toArray 9 (0, 0))) := hcur
  have HCL : Hid (cur.length = len) := hcl
  clear hown0 hgrow0 hcur hcl
  go_wp2_with ((with_reducible show Go.wpList _ _ _ _ _ _); refine wpList_copy_splice rfl (.tmp 19) (.tmp 20) 22 22 rfl 9 Yba.underlying22 (by kernel_rfl) _ _ _ _ _ _ rfl rfl w.heap.size 0 cur 9 HCUR.out (strsOf S len) (by rw [strsOf_length]; exact (Nat.min_self len).symm) (fun _ => ⟨rfl, _, rfl, src_lies hb0 HC.out⟩) (by rw [strsOf_length, HCL.out]; omega) (strsOf_one S len) w.heap.size w hb0 (Nat.le_refl _) ?_; intro w2 hg2 hb2; have hcp : Hid (∀ j, j < len → w2.cell? ⟨w.heap.size, 0 + j, none⟩ = some (.string (S j))) := copied HCL.out hg2; clear hg2)
  have HCP : Hid ( ∀ j, j < len → w2.cell? ⟨w.heap.size, j, none⟩ = some (.string (S j))) := fun j hj => by have := hcp.out j hj; rwa [Nat.zero_add] at this
  have HCS : Hid ( ∀ j, j < len → w2.cell? ⟨b, off + j, none⟩ = some (.string (S j))) := fun j hj => (hb2.cell (p := ⟨b, off + j, none⟩) hlt).trans (HC.out j hj)
  refine (index.file_miss w.heap.size 0 len len S x w2 hl' HN.out hcp.out).mono ?_
  rintro e w3 ⟨rfl, rfl⟩
  have r0 : ¬ (len : Int) < 0 := by omega
  go_wp2
  go_loop [10] (fun i => ∃ k : Nat, k ≤ len ∧ i = .int .i64 k) (fun i => len - (intOf i).toNat)
  case atStart => exact ⟨0, Nat.zero_le _, rfl⟩
  case round =>
    obtain ⟨k, hk, rfl⟩ := hrel
    by_cases hkr : k < len
    · have g := HCP.out k (by omega)
      have i1 : (k : Int) < (len : Int) := by omega
      have t : ((S k).toList == x.toList) = false := (index.beq_flip _ _).trans (HN.out k hkr)
      go_wp2
      go_round
      case rel => exact ⟨k + 1, by omega, by go_num⟩
      case measure => simp [intOf]; omega
    · obtain rfl : k = len := by omega
      go_wp2
      go_loop [11] (fun i => ∃ j : Nat, j ≤ k ∧ i = .int .i64 j) (fun i => k - (intOf i).toNat)
      case atStart => exact ⟨0, Nat.zero_le _, rfl⟩
      case round =>
        obtain ⟨j, hj, rfl⟩ := hrel
        by_cases hjr : j < k
        · have g := HCP.out j (by omega)
          have i1 : (j : Int) < (k : Int) := by omega
          have t : ((S j).toList == x.toList) = false := (index.beq_flip _ _).trans (HN.out j hjr)
          go_wp2
          go_round
          case rel => exact ⟨j + 1, by omega, by go_num⟩
          case measure => simp [intOf]; omega
        · go_wp2
          have CP := HCP.out
          have CS := HCS.out
          go_loopw [12] (fun i wr => ∃ m n : Nat, m ≤ k ∧ i = .int .i64 m ∧ wr = w3.drewN n) (fun i _ => k - (intOf i).toNat)
          case atStart => exact ⟨0, 0, Nat.zero_le _, rfl, rfl⟩
          case round =>
            obtain ⟨m, n, hk, rfl, rfl⟩ := hrel
            by_cases hkl : m < k
            · have g1 := CP m hkl
              have g2 := CS m hkl
              have i1 : (m : Int) < (k : Int) := by omega
              go_wp2
              go_quiet (fail)
              go_wp2
              go_roundw
              case rel => exact ⟨m + 1, _, by omega, by go_num, rfl⟩
              case measure => simp [intOf]; omega
            · go_wp2
              go_ret
              exact ⟨rfl, below_drewN hb2 _⟩

set_option maxHeartbeats 2000000 in
theorem walk_even (b off len cap r q : Nat) (S : Nat → ByteArray) (p : Int) (x : ByteArray) (w : World) (hl : 0 < len) (hl' : len ≤ 1024) (up : 0 ≤ p ∧ p ≤ 255)
    (he : (p % 2 == 0) = true) (hq : p % (len : Int) = q) (hql : q < len) (hr : r < len) (hx : ((S q).toList == (S r).toList) = true) (hn : ∀ j, j < r → ((S q).toList == (S j).toList) = false)
    (hc : ∀ j, j < len → w.cell? ⟨b, off + j, none⟩ = some (.string (S j))) :
    Calls Yba.prog 4 #[.slice (some ⟨b, off, none⟩) len cap, .int .u8 p, .string x] w fun e w' => e = .returned (.bool true) ∧ Below w.heap.size w w' := by
  obtain ⟨i0, hi, hz0, hz1, hz2⟩ := info_parts info9
  have hd1 : ¬ (1024 : Int) < (len : Int) := by omega
  have hd0 : (0 : Int) < (len : Int) := by omega
  have hlt : b < w.heap.size := World.block_lt_of_cell? _ _ (hc 0 hl)
  have HC : Hid (∀ j, j < len → w.cell? ⟨b, off + j, none⟩ = some (.string (S j))) := hc
  clear hc
  have HX : Hid (((S q).toList == (S r).toList) = true) := hx
  have HN : Hid (∀ j, j < r → ((S q).toList == (S j).toList) = false) := hn
  clear hx hn
  have iq : (q : Int) < (len : Int) := by omega
  go_enter Yba.func4, Yba.ntmps4
  go_wp2_with (at_make; refine wpList_make_full _ rfl _ _ 22 rfl w.heap.size 9 i0 (.string ByteArray.empty) 1 Yba.underlying22 hi hz0 hz1 _ _ _ _ len rfl rfl (by omega) (by omega) (by rw [hz2]; omega) (by unfold maxLen; omega) (Nat.le_refl _) ?_)
  intro w0 hown0 hgrow0
  obtain ⟨cur, hcur, hcl⟩ := block_of hown0
  have hb0 : Below w.heap.size w w0 := (Below.refl _ _).grown hgrow0 (Nat.le_refl _) (by simp)
  have HCUR : Hid (w0.heap[w.heap.size]? = some (.cells cur.toArray 9 (0, 0))) := hcur
  have HCL : Hid (cur.length = len) := hcl
  clear hown0 hgrow0 hcur hcl
  go_wp2_with ((with_reducible show Go.wpList _ _ _ _ _ _); refine wpList_copy_splice rfl (.tmp 19) (.tmp 20) 22 22 rfl 9 Yba.underlying22 (by kernel_rfl) _ _ _ _ _ _ rfl rfl w.heap.size 0 cur 9 HCUR.out (strsOf S len) (by rw [strsOf_length]; exact (Nat.min_self len).symm) (fun _ => ⟨rfl, _, rfl, src_lies hb0 HC.out⟩) (by rw [strsOf_length, HCL.out]; omega) (strsOf_one S len) w.heap.size w hb0 (Nat.le_refl _) ?_; intro w2 hg2 hb2; have hcp : Hid (∀ j, j < len → w2.cell? ⟨w.heap.size, 0 + j, none⟩ = some (.string (S j))) := copied HCL.out hg2; clear hg2; have gq : w2.cell? ⟨w.heap.size, q, none⟩ = some (.string (S q)) := by have := hcp.out q hql; rwa [Nat.zero_add] at this)
  have HCP : Hid ( ∀ j, j < len → w2.cell? ⟨w.heap.size, j, none⟩ = some (.string (S j))) := fun j hj => by have := hcp.out j hj; rwa [Nat.zero_add] at this
  have HCS : Hid ( ∀ j, j < len → w2.cell? ⟨b, off + j, none⟩ = some (.string (S j))) := fun j hj => (hb2.cell (p := ⟨b, off + j, none⟩) hlt).trans (HC.out j hj)
  refine (index.file_hit w.heap.size 0 len len r S (S q) w2 hl' hr HX.out HN.out hcp.out).mono ?_
  rintro e w3 ⟨rfl, rfl⟩
  have r0 : ¬ (r : Int) < 0 := by omega
  have r1 : ¬ (len : Int) < (r : Int) := by omega
  go_wp2
  go_loop [10] (fun i => ∃ k : Nat, k ≤ r ∧ i = .int .i64 k) (fun i => r - (intOf i).toNat)
  case atStart => exact ⟨0, Nat.zero_le _, rfl⟩
  case round =>
    obtain ⟨k, hk, rfl⟩ := hrel
    have g := HCP.out k (by omega)
    have i1 : (k : Int) < (len : Int) := by omega
    by_cases hkr : k < r
    · have t : ((S k).toList == (S q).toList) = false := (index.beq_flip _ _).trans (HN.out k hkr)
      go_wp2
      go_round
      case rel => exact ⟨k + 1, by omega, by go_num⟩
      case measure => simp [intOf]; omega
    · obtain rfl : k = r := by omega
      have t : ((S k).toList == (S q).toList) = true := (index.beq_flip _ _).trans HX.out
      have t' : ((S k).toList != (S q).toList) = false := by rw [bne, t]; rfl
      go_wp2
      have CP := HCP.out
      have CS := HCS.out
      go_loopw [12] (fun i wr => ∃ k n : Nat, k ≤ len ∧ i = .int .i64 k ∧ wr = w3.drewN n) (fun i _ => len - (intOf i).toNat)
      case atStart => exact ⟨0, 0, Nat.zero_le _, rfl, rfl⟩
      case round =>
        obtain ⟨k, n, hk, rfl, rfl⟩ := hrel
        by_cases hkl : k < len
        · have g1 := CP k hkl
          have g2 := CS k hkl
          have i1 : (k : Int) < (len : Int) := by omega
          go_wp2
          go_quiet (fail)
          go_wp2
          go_roundw
          case rel => exact ⟨k + 1, _, by omega, by go_num, rfl⟩
          case measure => simp [intOf]; omega
        · go_wp2
          go_ret
          exact ⟨rfl, below_drewN hb2 _⟩

set_option maxHeartbeats 1000000 in
theorem walk_none (a : Option Addr) (cap : Nat) (p : Int) (x : ByteArray) (w : World) :
    Calls Yba.prog 4 #[.slice a 0 cap, .int .u8 p, .string x] w fun e w' => e = .returned (.bool true) ∧ Below w.heap.size w w' := by
  obtain ⟨i0, hi, hz0, hz1, hz2⟩ := info_parts info9
  go_enter Yba.func4, Yba.ntmps4
  go_wp2_with (at_make; refine wpList_make_full _ rfl _ _ 22 rfl w.heap.size 9 i0 (.string ByteArray.empty) 1 Yba.underlying22 hi hz0 hz1 _ _ _ _ 0 rfl rfl (by omega) (by omega) (by rw [hz2]; omega) (by unfold maxLen; omega) (Nat.le_refl _) ?_)
  intro w0 hown0 hgrow0
  have hb0 : Below w.heap.size w w0 := (Below.refl _ _).grown hgrow0 (Nat.le_refl _) (by simp)
  clear hown0 hgrow0
  go_wp2_with ((with_reducible show Go.wpList _ _ _ _ _ _); refine wpList_copy_nothing rfl (.tmp 19) (.tmp 20) 22 22 rfl 9 Yba.underlying22 (by kernel_rfl) _ _ _ _ _ _ rfl rfl rfl ?_)
  refine (index.file_none _ _ x _).mono ?_
  rintro e w3 ⟨rfl, rfl⟩
  go_wp2
  refine wp_loop_rounds 1 ?_
  rw [rounds_succ]
  go_wp2
  refine wp_loop_rounds 1 ?_
  rw [rounds_succ]
  go_wp2
  refine wp_loop_rounds 1 ?_
  rw [rounds_succ]
  go_wp2
  go_ret
  exact ⟨rfl, hb0⟩

set_option maxHeartbeats 1000000 in
theorem walk_long (a : Option Addr) (len cap : Nat) (p : Int) (x : ByteArray) (w : World) (h : 1024 < len) :
    Calls Yba.prog 4 #[.slice a len cap, .int .u8 p, .string x] w fun e w' => e = .returned (.bool true) ∧ Below w.heap.size w w' := by
  have hd1 : (1024 : Int) < (len : Int) := by omega
  go_enter Yba.func4, Yba.ntmps4
  go_wp2
  go_ret
  exact ⟨rfl, Below.refl _ _⟩

theorem walk (a0 : Option Addr) (len0 cap0 : Nat) (ss : List ByteArray) (a1 : Int) (a2 : ByteArray) (w : World) (w0 : IsRowS w a0 len0 cap0 ss) (w1 : (Lit.int .u8 a1).wf = true) :
    Calls Yba.prog 4 #[.slice a0 len0 cap0, .int .u8 a1, .string a2] w fun e w' => e = .returned (.bool true) ∧ Below w.heap.size w w' := by
  have u1 := bounds_u8 w1
  by_cases hbig : 1024 < len0
  · exact walk_long a0 len0 cap0 a1 a2 w hbig
  by_cases h0 : len0 = 0
  · subst h0
    exact walk_none a0 cap0 a1 a2 w
  rcases w0 with ⟨_, h, _⟩ | ⟨x, rfl, hl, hm, hz, hcell⟩
  · exact absurd h h0
  obtain ⟨b, off, spot⟩ := x
  have hspot : spot = none := by simpa [Addr.add] using World.cell?_spot (hcell 0 (by omega))
  subst hspot
  have cz : ∀ j, j < len0 → w.cell? ⟨b, off + j, none⟩ = some (.string ((fun j => ss.getD j ByteArray.empty) j)) := fun j hj => by
    rw [← add_plain]; exact hcell j (by omega)
  cases he : (a1 % 2 == 0) with
  | false =>
    rcases index.first_or_none (fun j => ss.getD j ByteArray.empty) a2 len0 with ⟨r, hr, hx, hn⟩ | hn
    · exact walk_odd_hit b off len0 cap0 r _ a1 a2 w (by omega) (by omega) u1 he hr hx hn cz
    · exact walk_odd_miss b off len0 cap0 _ a1 a2 w (by omega) (by omega) u1 he hn cz
  | true =>
    have hq := bytes_bd a1 len0 u1.1 (by omega)
    obtain ⟨q, hq'⟩ : ∃ q : Nat, a1 % (len0 : Int) = q := ⟨(a1 % (len0 : Int)).toNat, by omega⟩
    rcases index.first_or_none (fun j => ss.getD j ByteArray.empty) ((fun j => ss.getD j ByteArray.empty) q) len0 with ⟨r, hr, hx, hn⟩ | hn
    · exact walk_even b off len0 cap0 r q (fun j => ss.getD j ByteArray.empty) a1 a2 w (by omega) (by omega) u1 he hq' (by omega) hr hx hn cz
    · have := hn q (by omega)
      simp at this

set_option maxRecDepth 100000 in
theorem lifted (os : Os) (started : os.Started) (H : Type) (enc : TypeId × Value → H) :
    ReturnsInHanded {} Yba.checked os 4 .any (Rows.lawS4396CFirstSpec.pre6 enc Yba.prog Yba.f4 Rows.lawS4396CFirstRow.domain false) (Rows.lawS4396CFirstSpec.post enc Yba.prog Yba.f4 false true false false) := by
  refine returnsInHanded_of_change (C := Yba.checked) own started (by kernel_rfl) Yba.func4
    (ChangeSpec.witness6 (enc := enc) (C := Yba.checked) false ⟨#[], #[.slice none 0 0, .int .u8 0, .string ByteArray.empty], []⟩ 8 (by kernel_rfl) (by kernel_rfl) (by kernel_rfl) (by kernel_rfl)) ?_
  intro W base args ds gs before hval0 hW hcnd _
  have hval : ∀ (j : Nat) t v, Yba.f4.params[j]? = some t → args[j]? = some v → Value.okWide Yba.prog W .any base t v := hval0
  have hW' := hW
  obtain ⟨p, q, hA0, hV, rfl, hfz, hnd⟩ := hW
  have hA : DataW.TrodAll enc Yba.prog W 0 (fun _ => true) true Yba.f4.params.toList args.toList ds p := hA0
  rw [Yba.params4] at hA hval
  obtain ⟨v0, vs0, d0, ds0, p0, q0, hargs, rfl, rfl, h0, r0⟩ := trodAll_cons hA
  obtain ⟨v1, vs1, d1, ds1, p1, q1, rfl, rfl, rfl, h1, r1⟩ := trodAll_cons r0
  obtain ⟨v2, vs2, d2, ds2, p2, q2, rfl, rfl, rfl, h2, r2⟩ := trodAll_cons r1
  obtain ⟨rfl, rfl, rfl⟩ := trodAll_nil r2
  obtain rfl : args = #[v0, v1, v2] := by cases args; simp_all
  obtain ⟨rfl, rfl⟩ := trodVars_none hV
  obtain ⟨a0, len0, cap0, rfl⟩ := okWide_slice Yba.underlying22 (hval 0 22 v0 rfl rfl)
  have k0 := h0
  have lt0 : ∀ x ∈ p0, x.block < W.heap.size := by obtain ⟨m, hm⟩ := k0; exact DataW.trod_lt m _ _ _ hm
  obtain ⟨ss, w0⟩ : ∃ ss, IsRowS W a0 len0 cap0 ss := by
    obtain ⟨fuel, hf⟩ := h0
    rcases open_strings Yba.underlying22 Yba.underlying9 (by kernel_rfl) hf with ⟨hcs, _⟩ | ⟨x, l, c, ss, hcs, _, hl, hm, hz, _, hcell, hws⟩
    · simp [Value.cells] at hcs
      obtain ⟨rfl, rfl, rfl⟩ := hcs
      exact ⟨[], .inl ⟨rfl, rfl, rfl, rfl⟩⟩
    · simp [Value.cells] at hcs
      obtain ⟨rfl, rfl, rfl⟩ := hcs
      exact ⟨ss, .inr ⟨_, rfl, hl, hm, by simpa using hz, hcell⟩⟩
  obtain ⟨a1, rfl, rfl, rfl, w1⟩ := open_int Yba.underlying5 (hval 1 5 v1 rfl rfl) h1
  obtain ⟨a2, rfl, rfl, rfl, w2⟩ := open_string Yba.underlying9 (hval 2 9 v2 rfl rfl) h2
  clear hA0 hval0
  refine (walk a0 len0 cap0 ss a1 a2 W w0 w1).mono fun e W' ⟨he, bel⟩ => ?_
  subst he
  exact ⟨_, rfl, _, _, _, [], _, [], hW', trodAll_mk1 (shut_bool Yba.underlying4 _), (trodAll_cons_mk (Below.trod laidOut (by kernel_rfl) (of_decide_eq_true (by kernel_rfl)) k0 bel lt0) (trodAll_cons_mk (shut_int Yba.underlying5 w1) (trodAll_cons_mk (shut_string Yba.underlying9 w2) trodAll_mk0))), rfl, bel.frame _, fun h => by cases h⟩

theorem over : Rows.lawS4396CFirstRow.holds Yba.pinned (OpenSpec.ofChange Rows.lawS4396CFirstSpec) :=
  OpenClaim.holds_of_wide 4 Yba.f4 rfl rfl rfl rfl rfl rfl rfl ⟨rfl, rfl, rfl, rfl, rfl⟩ rfl rfl rfl rfl rfl (by kernel_rfl) Yba.func4 (by kernel_rfl)
    (of_decide_eq_true (by kernel_rfl)) (by unfold Func.isWrapper; first | (rw [if_pos (by decide +kernel)]; kernel_rfl) | (rw [if_neg (by decide +kernel)]; exact ⟨rfl, rfl⟩))
    (fun os started H enc _ => lifted os started H enc)

/-- ████ THE STATEMENT ████ -/
theorem proved : Rows.LawS4396CFirstSaid := over
end Go.Proofs.Ybulkcmac.lawS4396CFirst
