import Derived.Test.YbulkclxkGreatRobin
import Derived.Test.YbulkclxkGreatEq
import Derived.WalkKit
import Derived.ProofKit
import Derived.OpenShut
import Derived.ShutString
import Derived.LoopTactic
import Derived.BigQuiet
import Derived.Laws.StructEq
namespace Go.Proofs.YbulkclxkGreat.lawS4391CRoundRobin
open Go.ChangeShapes Go.WideShapes Go.ChangeAt Go.RowKit
open Go.ChangeMaps (open_string shut_string)
open lab ring maps sup put hold read tick order
set_option linter.unusedVariables false

def Inv (w wr : World) (topic : ByteArray) (start : Int) (m k : Nat) : Prop :=
  (k = m ∧ Below w.heap.size w wr ∧ wr.heap[w.heap.size + 1]? = some (.cells #[.map (some w.heap.size), .int .u64 start] 55 (0, 0)) ∧ w.heap.size + 1 < wr.heap.size ∧ MapAt wr w.heap.size (fun _ => none) 0) ∨
  (k < m ∧ ∃ rb lb' B G, St w wr (w.heap.size + 1) w.heap.size rb lb' B topic start ((R k m).map pr) (m - k) G 0 0 ∧ ∀ x, x < k → G (adr x) = [])

theorem Inv.hold {w wr : World} {topic : ByteArray} {start : Int} {m k : Nat} (h : Inv w wr topic start m (k + 1)) (ht : topic.size ≤ maxLen) (hm : m ≤ 40) (hk : k < m) (wx : World) (hb : Below wr.heap.size wr wx) :
    Calls Ybaz.prog 6 #[.pointer (some ⟨w.heap.size + 1, 0, none⟩), .string topic, .agg #[.string (adr k), .int .u64 (lb k), .int .u8 (ln k)]] wx fun e w' => e = .returned (.tuple #[]) ∧ Inv w w' topic start m k := by
  rcases h with ⟨e, hB, hs, hl, hm'⟩ | ⟨hkm, rb, lb', B, G, hS, hG⟩
  · subst e
    refine (hold_top w (w.heap.size + 1) w.heap.size k topic start wx ht hm (hB.trans (hb.mono hB.size)) (by omega) (by omega) (by have := hb.size; omega) ((hb.block _ hl).trans hs) (hm'.of_block (hb.block _ hm'.lt))).mono ?_
    rintro e w' ⟨rfl, rb, lb', B, G', hS, hG⟩
    exact ⟨rfl, .inr ⟨by omega, rb, lb', B, G', hS, hG⟩⟩
  · refine (hold_step w (w.heap.size + 1) w.heap.size rb lb' B m k topic start G wx ht hm hk (by rw [show m - (k + 1) = m - (k + 1) from rfl]; exact hS.later hb) hG).mono ?_
    rintro e w' ⟨rfl, G', hS', hG'⟩
    exact ⟨rfl, .inr ⟨hk, rb, lb', B, G', hS', hG'⟩⟩

theorem Inv.bel {w wr : World} {topic : ByteArray} {start : Int} {m k : Nat} (h : Inv w wr topic start m k) : Below w.heap.size w wr := by
  rcases h with ⟨_, hB, _⟩ | ⟨_, _, _, _, _, hS, _⟩
  · exact hB
  · exact hS.bel

set_option maxRecDepth 100000 in
set_option maxHeartbeats 4000000 in
theorem walk' (topic : ByteArray) (start : Int) (n2 n3 m t : Nat) (hn2 : n2 ≤ 255) (hn3 : n3 ≤ 255) (em : m = n2 % 40 + 1) (et : t = n3 % 100) (ht : topic.size ≤ maxLen) (w : World) :
    Calls Ybaz.prog 3 #[.string topic, .int .u64 start, .int .u8 n2, .int .u8 n3] w fun e w' => e = .returned (.bool true) ∧ Below w.heap.size w w' := by
  have hm : m ≤ 40 := by omega
  have h0 : 0 < m := by omega
  have ht1 : t ≤ 100 := by omega
  have d1 : ((n2 : Int)).tmod 40 = ((n2 % 40 : Nat) : Int) := by rw [Int.tmod_eq_emod_of_nonneg (by omega)]; rfl
  have d2 : ((n3 : Int)).tmod 100 = (t : Int) := by rw [Int.tmod_eq_emod_of_nonneg (by omega), et]; rfl
  have d3 : ((n2 % 40 : Nat) : Int) + 1 = (m : Int) := by omega
  have HW : Hid (Inv w ((w.alloc (.map #[] 0)).alloc (.cells #[.map (some w.heap.size), .int .u64 start] 55)) topic start m m) := .inl ⟨rfl, (((Below.refl _ w).alloc (Nat.le_refl _) _).alloc (by simp) _), by simpa using heap_alloc_new (w.alloc (.map #[] 0)) _, by simp, MapAt.alloc (MapAt.made w) _⟩
  go_enter Ybaz.func3, Ybaz.ntmps3
  go_wp2_with (go_at_call 5; refine (newSup start _).mono ?_; rintro e w1 ⟨rfl, rfl⟩)
  have e9 : (n2 : Int) % 40 + 1 = (m : Int) := by omega
  have e12 : (n2 : Int) % 40 = (m : Int) - 1 := by omega
  have e10 : (n3 : Int) % 100 = (t : Int) := by omega
  rw [e9, e10, e12]
  clear d1 d2 d3 e9 e10 e12 em et hn2 hn3
  go_loopw [12] (fun vi wr => ∃ k : Nat, k ≤ m ∧ vi = .int .i64 ((k : Int) - 1) ∧ Inv w wr topic start m k) (fun vi _ => (intOf vi + 1).toNat)
  case atStart => exact ⟨m, Nat.le_refl _, rfl, HW.out⟩
  case round =>
    obtain ⟨k, hk, rfl, hI⟩ := hrel
    have HI : Hid (Inv w wr topic start m k) := hI
    clear hI
    rcases k with _ | k
    · obtain ⟨rb, lb', B, G, hS, _⟩ : ∃ rb lb' B G, St w wr (w.heap.size + 1) w.heap.size rb lb' B topic start (Lm m) (Lm m).length G 0 0 ∧ True := by
        rcases HI.out with ⟨e, _⟩ | ⟨_, rb, lb', B, G, hS, _⟩
        · omega
        · exact ⟨rb, lb', B, G, by rw [Lm_length m hm]; exact hS, trivial⟩
      obtain ⟨v, f, hr⟩ := hS.ros
      obtain ⟨g, c, rfl, hg1, hg2⟩ := hr.own.form (by rw [Lm_length m hm]; exact h0)
      have hL := Lm_length m hm
      have HS : Hid (St w wr (w.heap.size + 1) w.heap.size rb lb' B topic start (Lm m) (Lm m).length G 0 0) := hS
      have HR : Hid (Ros wr B rb lb' (Lm m) (Lm m).length G 0 0 start (.slice (some ⟨g, 0, none⟩) (Lm m).length c) f) := hr
      clear hS hr
      rw [show ((0 : Nat) : Int) - 1 = -1 by rfl]
      go_wp2_with (first
        | (go_at_call 9; refine (subs_any w (w.heap.size + 1) w.heap.size rb lb' B _ topic start (Lm m) G 0 0 wr ht HS.out (by omega) (by omega)).mono ?_; rintro e w2 ⟨gr, cr, rfl, hown, hb2⟩))
      have hgr := hown.lt gr rfl
      have hR2 := HR.out.later hb2
      have hS2 := HS.out.later hb2
      have hrow2 : Row w2 gr (Lm m).length (nth (Lm m)) := row_of hown
      have hgg : gr ≠ g ∧ gr ≠ rb := ⟨by omega, by have := hR2.hrb; have := HR.out.hB; omega⟩
      have hz0 : nth (Lm m) 0 = pr 0 := by rw [nth_Lm m 0 hm h0, num_zero m h0]
      have r1 : w2.cell? ⟨gr, 1, none⟩ = some (.int .u64 0) := by
        have := (hrow2 0 (by omega)).2.1
        rw [hz0] at this
        simp only [Nat.zero_mul, Nat.zero_add] at this
        exact this
      have r2 : w2.cell? ⟨gr, 2, none⟩ = some (.int .u8 1) := by
        have := (hrow2 0 (by omega)).2.2
        rw [hz0] at this
        simp only [Nat.zero_mul, Nat.zero_add] at this
        exact this
      have HS2 : Hid (St w w2 (w.heap.size + 1) w.heap.size rb lb' B topic start (Lm m) (Lm m).length G 0 0) := hS2
      have HR2 : Hid (Ros w2 B rb lb' (Lm m) (Lm m).length G 0 0 start (.slice (some ⟨g, 0, none⟩) (Lm m).length c) f) := hR2
      have HW2 : Hid (Row w2 gr (Lm m).length (nth (Lm m))) := hrow2
      have KS : Hid (∀ wx, Below w2.heap.size w2 wx → wx.cell? ⟨gr, 1, none⟩ = some (.int .u64 0) ∧ wx.cell? ⟨gr, 2, none⟩ = some (.int .u8 1)) := fun wx hb => ⟨(hb.cell (p := ⟨gr, 1, none⟩) hgr.2).trans r1, (hb.cell (p := ⟨gr, 2, none⟩) hgr.2).trans r2⟩
      clear hS2 hR2 hrow2 HS HR hown hz0
      have hmm : ((m : Int) != (m : Int)) = false := by simp
      have hm0 : (0 : Int) < (m : Int) := by omega
      go_region_held3 (fun w' => w'.cell? ⟨gr, 1, none⟩ = some (.int .u64 0) ∧ w'.cell? ⟨gr, 2, none⟩ = some (.int .u8 1))
        (first | exact KS.out _ hb3 | exact KS.out _ (Below.refl _ _).drew)
        ((go_at_call 8; refine (labelOf_0 _).mono ?_; rintro e w3 ⟨rfl, hb3'⟩; have hb3 : Below w2.heap.size w2 w3 := (Below.refl _ w2).drew.trans hb3'))
      go_wp2_with fail
      have e9 : turnB m 0 = 0 := rfl
      have e10 : turnN m 0 = 0 := rfl
      go_loopw [14] (fun vj wr' => ∃ j : Nat, j ≤ t ∧ vj = .int .i64 j ∧ St w wr' (w.heap.size + 1) w.heap.size rb lb' B topic start (Lm m) (Lm m).length G (turnB m j) (turnN m j) ∧ Ros wr' B rb lb' (Lm m) (Lm m).length G (turnB m j) (turnN m j) start (.slice (some ⟨g, 0, none⟩) (Lm m).length c) f ∧ Row wr' gr (Lm m).length (nth (Lm m)) ∧ gr < wr'.heap.size) (fun vj _ => t - (intOf vj).toNat)
      case atStart => exact ⟨0, Nat.zero_le _, rfl, HS2.out.later hb3, HR2.out.later hb3, HW2.out.later hb3 hgr.2, Nat.lt_of_lt_of_le hgr.2 hb3.size⟩
      case round =>
        obtain ⟨j, hj, rfl, hSj, hRj, hWj, hgl⟩ := hrel
        have HSj : Hid (St w wr (w.heap.size + 1) w.heap.size rb lb' B topic start (Lm m) (Lm m).length G (turnB m j) (turnN m j)) := hSj
        have HRj : Hid (Ros wr B rb lb' (Lm m) (Lm m).length G (turnB m j) (turnN m j) start (.slice (some ⟨g, 0, none⟩) (Lm m).length c) f) := hRj
        have HWj : Hid (Row wr gr (Lm m).length (nth (Lm m))) := hWj
        clear hSj hRj hWj
        by_cases hjt : j < t
        · obtain ⟨i, ei⟩ : ∃ i, i = j % m := ⟨_, rfl⟩
          have hi : i < m := by rw [ei]; exact Nat.mod_lt _ h0
          have q1 : (j : Int).tmod (m : Int) = (i : Int) := by rw [Int.tmod_eq_emod_of_nonneg (by omega), ei]; rfl
          have hjt' : (j : Int) < (t : Int) := by omega
          have u3 : IntKind.i64.wrap ((j : Int) + 1) = (j : Int) + 1 := by rw [IntKind.wrap_i64]; omega
          have hi' : (i : Int) < (m : Int) := by omega
          have HT : Hid (Calls Ybaz.prog 10 #[.pointer (some ⟨w.heap.size + 1, 0, none⟩), .pointer none] wr fun e w' => ∃ g' c', e = .returned (.slice (some ⟨g', 0, none⟩) 1 c') ∧ w'.cell? ⟨g', 0, none⟩ = some (.string (nth (Lm m) i).a) ∧ w'.cell? ⟨g', 1, none⟩ = some (.iface 41 (.agg (cfg topic (lft m i) (nth (Lm m) i).b (nth (Lm m) i).n (rgt m i) start true))) ∧
              Ros w' B rb lb' (Lm m) (Lm m).length G (turnB m (j + 1)) (turnN m (j + 1)) start (.slice (some ⟨g, 0, none⟩) (Lm m).length c) f ∧ Turned (fun k => k = rb ∨ k = g) wr w') := by
            rw [ei]
            exact tick_step w (w.heap.size + 1) w.heap.size rb lb' B g c m j topic start G f wr ht h0 hm HSj.out HRj.out
          generalize hP : nth (Lm m) = P at HT HWj HW2 ⊢
          generalize hl : lft m i = pl at HT
          generalize hrr : rgt m i = prr at HT
          have hm1 : ¬ m = 0 := by omega
          have hta : ∀ (v : Value) (wx : World), (Instr.typeAssert (.iface 41 v) 37 41 true).run Ybaz.prog wx = .ok (.tuple #[v, .bool true]) wx := fun v wx => by kernel_rfl
          have HQ : Hid (∀ wx, Row wx gr m P → Calls Ybaz.prog 11 #[.slice (some ⟨gr, 0, none⟩) m cr, .int .i64 i, .string topic, .int .u64 start, .bool true] wx fun e w' => e = .returned (.agg #[.string topic, .string pl.a, .int .u64 pl.b, .int .u8 pl.n, .int .u64 (P i).b, .int .u8 (P i).n, .string prr.a, .int .u64 prr.b, .int .u8 prr.n, .int .u64 start, .bool true]) ∧ Below wx.heap.size wx w') := fun wx hrow => by
            by_cases h1 : m = 1
            · have hi0 : i = 0 := by omega
              rw [lft, if_pos h1] at hl
              rw [rgt, if_pos h1] at hrr
              rw [h1] at hrow
              rw [← hl, ← hrr, h1, hi0]
              exact want_one gr cr P topic start true wx hrow
            · rw [lft, if_neg h1, ← nth_Lm m _ hm (Nat.mod_lt _ h0), hP] at hl
              rw [rgt, if_neg h1, ← nth_Lm m _ hm (Nat.mod_lt _ h0), hP] at hrr
              rw [← hl, ← hrr]
              exact want_many gr cr m i _ _ P topic start true wx (by omega) (by omega) hi rfl rfl hrow
          clear ei hl hrr hP
          go_wp2_with (first
            | (go_at_call 10; refine HT.out.mono ?_; rintro e w4 ⟨g4, c4, rfl, o0, o1, hr4, ht4⟩
               unfold cfg at o1
               have hW4 : Row w4 gr (Lm m).length P := fun q hq => by
                 have hk : w4.heap[gr]? = wr.heap[gr]? := ht4.block gr hgl (by rintro (e | e); exact hgg.2 e; exact hgg.1 e)
                 obtain ⟨y0, y1, y2⟩ := HWj.out q hq
                 exact ⟨(World.cell?_of_block hk).trans y0, (World.cell?_of_block hk).trans y1, (World.cell?_of_block hk).trans y2⟩
               obtain ⟨y0, y1, y2⟩ := hW4 i (by omega)
               have H4 : Hid (Ros w4 B rb lb' (Lm m) (Lm m).length G (turnB m (j + 1)) (turnN m (j + 1)) start (.slice (some ⟨g, 0, none⟩) (Lm m).length c) f) := hr4
               have HW4 : Hid (Row w4 gr (Lm m).length P) := hW4
               clear hr4 hW4))
          go_quiet (fail)
          have hb5 : Below w4.heap.size w4 (w4.drewN nq) := below_drewN (Below.refl _ _) _
          have H5 : Hid (Ros (w4.drewN nq) B rb lb' (Lm m) (Lm m).length G (turnB m (j + 1)) (turnN m (j + 1)) start (.slice (some ⟨g, 0, none⟩) (Lm m).length c) f) := H4.out.later hb5
          have hgl4 : gr < w4.heap.size := Nat.lt_of_lt_of_le hgl ht4.size
          have HW5 : Hid (Row (w4.drewN nq) gr (Lm m).length P) := HW4.out.later hb5 hgl4
          have o5 := (hb5.cell (p := ⟨g4, 1, none⟩) (World.block_lt_of_cell? _ _ o1)).trans o1
          have hgl5 : gr < (w4.drewN nq).heap.size := Nat.lt_of_lt_of_le hgl4 hb5.size
          have hT5 : Turned (fun k => k = rb ∨ k = g) wr (w4.drewN nq) := ht4.trans ((Turned.of_below hb5).mono (fun k hk hs => by omega))
          clear o0 o1 y0 y1 y2 H4 HW4 hb5 ht4 hgl4
          generalize w4.drewN nq = w5 at H5 HW5 o5 hgl5 hT5 ⊢
          go_wp2_with fail
          have KB : Hid (∀ w' : World, Below (w5.heap.size + 1) (w5.alloc (.cells #[.string topic, .string pl.a, .int .u64 pl.b, .int .u8 pl.n, .int .u64 (P i).b, .int .u8 (P i).n, .string prr.a, .int .u64 prr.b, .int .u8 prr.n, .int .u64 start, .bool true] 41)) w' → w'.cell? ⟨w5.heap.size, 0, none⟩ = some (.string topic) ∧ w'.cell? ⟨w5.heap.size, 1, none⟩ = some (.string pl.a) ∧ w'.cell? ⟨w5.heap.size, 2, none⟩ = some (.int .u64 pl.b) ∧ w'.cell? ⟨w5.heap.size, 3, none⟩ = some (.int .u8 pl.n) ∧ w'.cell? ⟨w5.heap.size, 4, none⟩ = some (.int .u64 (P i).b) ∧ w'.cell? ⟨w5.heap.size, 5, none⟩ = some (.int .u8 (P i).n) ∧ w'.cell? ⟨w5.heap.size, 6, none⟩ = some (.string prr.a) ∧ w'.cell? ⟨w5.heap.size, 7, none⟩ = some (.int .u64 prr.b) ∧ w'.cell? ⟨w5.heap.size, 8, none⟩ = some (.int .u8 prr.n) ∧ w'.cell? ⟨w5.heap.size, 9, none⟩ = some (.int .u64 start) ∧ w'.cell? ⟨w5.heap.size, 10, none⟩ = some (.bool true)) := fun w' hb =>
            cfg_facts (l := pl) (r := prr) ((hb.block _ (by omega)).trans (heap_alloc_new w5 (.cells (cfg topic pl (P i).b (P i).n prr start true) 41 (0, 0))))
          have hbD : Below w5.heap.size w5 (w5.alloc (.cells #[.string topic, .string pl.a, .int .u64 pl.b, .int .u8 pl.n, .int .u64 (P i).b, .int .u8 (P i).n, .string prr.a, .int .u64 prr.b, .int .u8 prr.n, .int .u64 start, .bool true] 41)).drew := ((Below.refl _ _).alloc (Nat.le_refl _) _).drew
          have hrD : Hid (Row (w5.alloc (.cells #[.string topic, .string pl.a, .int .u64 pl.b, .int .u8 pl.n, .int .u64 (P i).b, .int .u8 (P i).n, .string prr.a, .int .u64 prr.b, .int .u8 prr.n, .int .u64 start, .bool true] 41)).drew gr m P) := by
            have := HW5.out.later hbD hgl5
            rw [hL] at this; exact this
          go_region_held3 (fun w' => w'.cell? ⟨w5.heap.size, 0, none⟩ = some (.string topic) ∧ w'.cell? ⟨w5.heap.size, 1, none⟩ = some (.string pl.a) ∧ w'.cell? ⟨w5.heap.size, 2, none⟩ = some (.int .u64 pl.b) ∧ w'.cell? ⟨w5.heap.size, 3, none⟩ = some (.int .u8 pl.n) ∧ w'.cell? ⟨w5.heap.size, 4, none⟩ = some (.int .u64 (P i).b) ∧ w'.cell? ⟨w5.heap.size, 5, none⟩ = some (.int .u8 (P i).n) ∧ w'.cell? ⟨w5.heap.size, 6, none⟩ = some (.string prr.a) ∧ w'.cell? ⟨w5.heap.size, 7, none⟩ = some (.int .u64 prr.b) ∧ w'.cell? ⟨w5.heap.size, 8, none⟩ = some (.int .u8 prr.n) ∧ w'.cell? ⟨w5.heap.size, 9, none⟩ = some (.int .u64 start) ∧ w'.cell? ⟨w5.heap.size, 10, none⟩ = some (.bool true))
            (first | exact KB.out _ hb6 | exact KB.out _ (Below.refl _ _).drew)
            ((go_at_call 11; refine (HQ.out _ hrD.out).mono ?_; rintro e w6 ⟨rfl, hb6'⟩; have hb6 : Below (w5.heap.size + 1) (w5.alloc (.cells #[.string topic, .string pl.a, .int .u64 pl.b, .int .u8 pl.n, .int .u64 (P i).b, .int .u8 (P i).n, .string prr.a, .int .u64 prr.b, .int .u8 prr.n, .int .u64 start, .bool true] 41)) w6 := (Below.refl _ _).drew.trans (hb6'.mono (by simp))))
          go_wp2
          have hb7 : Below w5.heap.size w5 w6 := ((Below.refl _ w5).alloc (Nat.le_refl _) _).trans (hb6.mono (by omega))
          go_roundw
          case rel =>
            refine ⟨j + 1, by omega, by go_num, (HSj.out.turn ⟨_, f, H5.out⟩ (hT5.mono ?_)).later hb7, H5.out.later hb7, HW5.out.later hb7 hgl5, Nat.lt_of_lt_of_le hgl5 hb7.size⟩
            intro q hq hs
            rcases hs with e | e
            · exact .inl e
            · exact .inr (.inr (by omega))
          case measure => simp [intOf]; omega
        · go_wp2_with (first
            | (go_at_call 9; refine (subs_any w (w.heap.size + 1) w.heap.size rb lb' B _ topic start (Lm m) G _ _ wr ht HSj.out (by omega) (by omega)).mono ?_; rintro e w7 ⟨g7, c7, rfl, hown7, hb7⟩
               have hg7 := (hown7.lt g7 rfl).2
               have hA : Hid (Row w7 g7 m (nth (Lm m))) := by
                 have := row_of hown7
                 rw [hL] at this; exact this
               have hA' : Hid (Row w7 gr m (nth (Lm m))) := by
                 have := HWj.out.later hb7 hgl
                 rw [hL] at this; exact this
               have H12 : Hid (Calls Ybaz.prog 12 #[.slice (some ⟨g7, 0, none⟩) m c7, .slice (some ⟨gr, 0, none⟩) m cr] w7 fun e w' => e = .returned (.bool true) ∧ Below w7.heap.size w7 w') :=
                 equal_any g7 c7 gr cr m (nth (Lm m)) w7 (by omega) hg7 (Nat.lt_of_lt_of_le hgl hb7.size) hA.out hA'.out)
            | (go_at_call 12; refine H12.out.mono ?_; rintro e w8 ⟨rfl, hb8⟩))
          go_ret
          exact ⟨rfl, (HSj.out.bel.trans (hb7.mono HSj.out.szW.1)).trans (hb8.mono (Nat.le_trans HSj.out.szW.1 hb7.size))⟩
    · rw [show ((k + 1 : Nat) : Int) - 1 = (k : Int) by omega]
      have hk40 : k < 40 := by omega
      have u1 : IntKind.u64.wrap (k : Int) = (k : Int) := by rw [IntKind.wrap_u64]; omega
      have u2 : IntKind.i64.wrap ((k : Int) - 1) = (k : Int) - 1 := by rw [IntKind.wrap_i64]; omega
      go_wp2_with (first
        | (go_at_call 7; refine (caddr k hk40 _).mono ?_; rintro e w2 ⟨rfl, hb2⟩)
        | (go_at_call 8; refine (labelOf_any k hk40 _).mono ?_; rintro e w3 ⟨rfl, hb3⟩)
        | (go_at_call 6; refine (HI.out.hold ht hm (by omega) w3 (hb2.trans (hb3.mono hb2.size))).mono ?_; rintro e w4 ⟨rfl, hI4⟩))
      go_roundw
      case rel => exact ⟨k, by omega, rfl, hI4⟩
      case measure => simp [intOf]
end Go.Proofs.YbulkclxkGreat.lawS4391CRoundRobin
