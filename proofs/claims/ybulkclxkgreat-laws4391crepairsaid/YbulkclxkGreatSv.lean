import Derived.Test.YbulkclxkGreatTick2
import Derived.Test.YbulkclxkGreatSubs
namespace Go.Proofs.YbulkclxkGreat.rep
open Go.ChangeShapes Go.WideShapes Go.ChangeAt Go.RowKit Go.Maps Go.Sort Go.Shelf
open lab ring maps sup put hold order del srt read
set_option linter.unusedVariables false

/-- A supervisor that holds the entries E of one topic, or no topic at all. -/
def Sv (W w : World) (sb tb ow : Nat) (topic : ByteArray) (start : Int) (E : List (Nat × Nat)) : Prop :=
  (E = [] ∧ Gone W w sb tb start) ∨ ∃ rb kb B g v f, St W w sb tb rb kb B topic start (Lf E) (cnt g) (Gf g) 0 0 ∧ Bk w B rb kb E g 0 0 start v f ∧ ow < B ∧ ow ≠ rb ∧ ow ≠ kb

theorem hold_some {W w : World} {sb tb rb kb B ow : Nat} {topic : ByteArray} {start : Int} {E : List (Nat × Nat)} {g : Nat → List Nat} {v : Value} {f : ByteArray → Option Value} (ht : topic.size ≤ maxLen) (h : St W w sb tb rb kb B topic start (Lf E) (cnt g) (Gf g) 0 0) (hb : Bk w B rb kb E g 0 0 start v f) (hl : E.length < 400) (how : ow < B ∧ ow ≠ rb ∧ ow ≠ kb) (a x : Nat) (ha : a < 6) (hx : x < 24) :
    Calls Ybaz.prog 6 #[.pointer (some ⟨sb, 0, none⟩), .string topic, .agg #[.string (nm a), .int .u64 (lb x), .int .u8 (ln x)]] w fun e w' => e = .returned (.tuple #[]) ∧
      ∃ E', Sv W w' sb tb ow topic start E' ∧ w'.heap[ow]? = w.heap[ow]? ∧ E'.length ≤ E.length + 1 ∧ ∀ b y, (b, y) ∈ E' ↔ if y = x then b = a else (b, y) ∈ E := by
  have hb1 : Below w.heap.size w (w.alloc (.cells #[.string (nm a), .int .u64 (lb x), .int .u8 (ln x)] 31)).drew := ((Below.refl _ _).alloc (Nat.le_refl _) _).drew
  have h1 := h.later hb1
  have hbx : ∀ j, (w.alloc (.cells #[.string (nm a), .int .u64 (lb x), .int .u8 (ln x)] 31)).drew.cell? ⟨w.heap.size, j, none⟩ = (#[.string (nm a), .int .u64 (lb x), .int .u8 (ln x)] : Array Value)[j]? := fun j => by
    show (w.alloc _).cell? _ = _
    rw [World.cell?_alloc_at _ _ _ _ rfl]
  refine hold_of sb rb topic (ent (a, x)) w (fun w1 => w1 = (w.alloc (.cells #[.string (nm a), .int .u64 (lb x), .int .u8 (ln x)] 31)).drew) (fun w' => ∃ E', Sv W w' sb tb ow topic start E' ∧ w'.heap[ow]? = w.heap[ow]? ∧ E'.length ≤ E.length + 1 ∧ ∀ b y, (b, y) ∈ E' ↔ if y = x then b = a else (b, y) ∈ E) ?_ ?_
  · refine (roster_old sb tb 1 start _ topic (.pointer (some ⟨rb, 0, none⟩)) _ ht h1.tmap (by simp) ⟨_, rfl⟩ (by simp [World.cell?, h1.sblk])).mono ?_
    rintro e w1 ⟨rfl, rfl⟩
    exact ⟨rfl, rfl, hbx 0, hbx 1, hbx 2⟩
  · rintro w1 rfl
    refine (put_bk (hb.later hb1) hl a x ha hx).mono ?_
    rintro e w' ⟨rfl, E', g', v', f', hbk, hst, hlen, hmem⟩
    have hwB := hb.ros.hB
    refine ⟨rfl, E', .inr ⟨rb, kb, B, g', v', f', h1.turn ⟨_, _, hbk.ros⟩ (Step.turn hst (hb.later hb1).ros), hbk, how⟩, ?_, hlen, hmem⟩
    exact (hst.keeps (by have := hb1.size; omega) how.2.1 how.2.2 (fun e => by have := (Ros.own_lt hb.ros e).1; omega)).trans (hb1.block ow (by omega))

theorem hold_none {W w : World} {sb tb ow : Nat} {topic : ByteArray} {start : Int} (ht : topic.size ≤ maxLen) (h : Gone W w sb tb start) (hsb : W.heap.size ≤ sb) (htb : W.heap.size ≤ tb) (how : ow < w.heap.size ∧ ow ≠ tb) (a x : Nat) (ha : a < 6) (hx : x < 24) :
    Calls Ybaz.prog 6 #[.pointer (some ⟨sb, 0, none⟩), .string topic, .agg #[.string (nm a), .int .u64 (lb x), .int .u8 (ln x)]] w fun e w' => e = .returned (.tuple #[]) ∧
      ∃ E', Sv W w' sb tb ow topic start E' ∧ w'.heap[ow]? = w.heap[ow]? ∧ E'.length ≤ 1 ∧ ∀ b y, (b, y) ∈ E' ↔ if y = x then b = a else (b, y) ∈ ([] : List (Nat × Nat)) := by
  obtain ⟨F, tmap, hF⟩ := h.tmap
  have hsl : sb < w.heap.size := (Array.getElem?_eq_some_iff.1 h.sblk).1
  have hb1 : Below w.heap.size w (w.alloc (.cells #[.string (nm a), .int .u64 (lb x), .int .u8 (ln x)] 31)).drew := ((Below.refl _ _).alloc (Nat.le_refl _) _).drew
  have hbx : ∀ j, (w.alloc (.cells #[.string (nm a), .int .u64 (lb x), .int .u8 (ln x)] 31)).drew.cell? ⟨w.heap.size, j, none⟩ = (#[.string (nm a), .int .u64 (lb x), .int .u8 (ln x)] : Array Value)[j]? := fun j => by
    show (w.alloc _).cell? _ = _
    rw [World.cell?_alloc_at _ _ _ _ rfl]
  have htl := tmap.lt
  have hsz : (w.alloc (.cells #[.string (nm a), .int .u64 (lb x), .int .u8 (ln x)] 31)).drew.heap.size = w.heap.size + 1 := by simp
  have s1 := (hb1.block sb hsl).trans h.sblk
  have t1 := tmap.of_block (hb1.block tb htl)
  have hne : sb ≠ tb := by
    intro e
    obtain ⟨es, cl, hbk⟩ := tmap.isMapBlock
    rw [← e, h.sblk] at hbk; simp at hbk
  have hWw := h.bel.size
  have hbel1 : Below W.heap.size W (w.alloc (.cells #[.string (nm a), .int .u64 (lb x), .int .u8 (ln x)] 31)).drew := h.bel.trans (hb1.mono hWw)
  have how1 := hb1.block ow how.1
  generalize hw0 : (w.alloc (.cells #[.string (nm a), .int .u64 (lb x), .int .u8 (ln x)] 31)).drew = w0 at *
  refine hold_of sb (w.heap.size + 2) topic (ent (a, x)) w (fun w1 => St W w1 sb tb (w.heap.size + 2) (w.heap.size + 1) (w.heap.size + 3) topic start (Lf []) (cnt (fun _ => [])) (Gf (fun _ => [])) 0 0 ∧ w1.heap[ow]? = w.heap[ow]? ∧ w.heap.size ≤ w1.heap.size) (fun w' => ∃ E', Sv W w' sb tb ow topic start E' ∧ w'.heap[ow]? = w.heap[ow]? ∧ E'.length ≤ 1 ∧ ∀ b y, (b, y) ∈ E' ↔ if y = x then b = a else (b, y) ∈ ([] : List (Nat × Nat))) ?_ ?_
  · show Calls Ybaz.prog 15 _ (w.alloc (.cells #[.string (nm a), .int .u64 (lb x), .int .u8 (ln x)] 31)).drew _
    rw [hw0]
    refine (roster_new sb tb 0 start F topic w0 ht (by omega) t1 (hF topic) (by simp [World.cell?, s1]) (by simp [World.cell?, s1])).mono ?_
    rintro e w1 ⟨rfl, m1, m2, b1, hg, hs1⟩
    rw [hsz] at m1 m2 b1 hs1 ⊢
    refine ⟨rfl, ⟨?_, (hg.block ow (by omega) (by simpa using how.2)).trans how1, by omega⟩, hg.cell (hbx 0) (by simp; omega), hg.cell (hbx 1) (by simp; omega), hg.cell (hbx 2) (by simp; omega)⟩
    have eF : (fun y => if y = topic then some (Value.pointer (some ⟨w.heap.size + 1 + 1, 0, none⟩)) else F y) = fun y => if y = topic then some (.pointer (some ⟨w.heap.size + 2, 0, none⟩)) else none := by
      funext y; by_cases hy : y = topic
      · simp [hy]
      · simp [hy, hF y]
    rw [eF] at m1
    refine { bel := hbel1.grown hg (by omega) (fun k hk => by simp at hk; omega), hs := by omega, hB := by omega, ne := by omega, sblk := (hg.block sb (by omega) (by simp; omega)).trans s1, tmap := m1, ros := ⟨.slice none 0 0, fun _ => none, ?_⟩ }
    have hG0 : ∀ ad, Gf (fun _ => []) ad = [] := fun ad => by simp [Gf]
    exact { hB := by omega, hrb := by omega, hlb := by omega, own := ⟨rfl, .inl ⟨rfl, rfl⟩⟩, blk := b1, map := m2, keys := fun ad => by rw [hG0]; rfl, rows := fun ad => by rw [hG0]; exact ⟨rfl, .inl ⟨rfl, rfl⟩⟩, sepv := fun _ _ h => by simp [zr, Value.ownBlock] at h, sep := fun _ _ _ _ h => by simp [zr, Value.ownBlock] at h }
  · rintro w1 ⟨h1, how2, hw1s⟩
    obtain ⟨v, f, hr⟩ := h1.ros
    have hbk : Bk w1 (w.heap.size + 3) (w.heap.size + 2) (w.heap.size + 1) [] (fun _ => []) 0 0 start v f := ⟨⟨by simp, rfl, fun a _ _ => List.Perm.refl _⟩, List.Pairwise.nil, by simp, hr⟩
    refine (put_bk hbk (by simp) a x ha hx).mono ?_
    rintro e w' ⟨rfl, E', g', v', f', hbk', hst, hlen, hmem⟩
    refine ⟨rfl, E', .inr ⟨_, _, _, g', v', f', h1.turn ⟨_, _, hbk'.ros⟩ (Step.turn hst hr), hbk', by omega, by omega, by omega⟩, ?_, by simpa using hlen, hmem⟩
    exact (hst.keeps (by omega) (by omega) (by omega) (fun e => by have := (Ros.own_lt hr e).1; omega)).trans how2

theorem hold_sv {W w : World} {sb tb ow : Nat} {topic : ByteArray} {start : Int} {E : List (Nat × Nat)} (ht : topic.size ≤ maxLen) (h : Sv W w sb tb ow topic start E) (hsb : W.heap.size ≤ sb) (htb : W.heap.size ≤ tb) (how : ow < w.heap.size ∧ ow ≠ tb) (hl : E.length < 400) (a x : Nat) (ha : a < 6) (hx : x < 24) :
    Calls Ybaz.prog 6 #[.pointer (some ⟨sb, 0, none⟩), .string topic, .agg #[.string (nm a), .int .u64 (lb x), .int .u8 (ln x)]] w fun e w' => e = .returned (.tuple #[]) ∧
      ∃ E', Sv W w' sb tb ow topic start E' ∧ w'.heap[ow]? = w.heap[ow]? ∧ E'.length ≤ E.length + 1 ∧ ∀ b y, (b, y) ∈ E' ↔ if y = x then b = a else (b, y) ∈ E := by
  rcases h with ⟨rfl, h⟩ | ⟨rb, kb, B, g, v, f, h, hb, how'⟩
  · exact hold_none ht h hsb htb how a x ha hx
  · exact hold_some ht h hb hl how' a x ha hx

theorem Gone.later {W w w' : World} {sb tb : Nat} {start : Int} (h : Gone W w sb tb start) (hb : Below w.heap.size w w') : Gone W w' sb tb start := by
  obtain ⟨F, hm, hF⟩ := h.tmap
  exact ⟨h.bel.trans (hb.mono h.bel.size), (hb.block _ (Array.getElem?_eq_some_iff.1 h.sblk).1).trans h.sblk, F, hm.of_block (hb.block _ hm.lt), hF⟩
theorem Sv.later {W w w' : World} {sb tb ow : Nat} {topic : ByteArray} {start : Int} {E : List (Nat × Nat)} (h : Sv W w sb tb ow topic start E) (hb : Below w.heap.size w w') : Sv W w' sb tb ow topic start E := by
  rcases h with ⟨rfl, h⟩ | ⟨rb, kb, B, g, v, f, h, hbk, how⟩
  · exact .inl ⟨rfl, h.later hb⟩
  · exact .inr ⟨rb, kb, B, g, v, f, h.later hb, hbk.later hb, how⟩
theorem Sv.bel {W w : World} {sb tb ow : Nat} {topic : ByteArray} {start : Int} {E : List (Nat × Nat)} (h : Sv W w sb tb ow topic start E) : Below W.heap.size W w := by
  rcases h with ⟨rfl, h⟩ | ⟨rb, kb, B, g, v, f, h, hbk, how⟩
  · exact h.bel
  · exact h.bel

theorem keys_none {D : DataW Value} (h1 : Maps.size D = 0) : strKeys D = [] := by
  cases D with
  | map l =>
    have : l = [] := by simpa [Maps.size] using h1
    subst this; rfl
  | _ => rfl

set_option maxRecDepth 100000 in
set_option maxHeartbeats 1000000 in
theorem topics_zero {W w : World} {sb tb : Nat} {start : Int} (h : Gone W w sb tb start) :
    Calls Ybaz.prog 19 #[.pointer (some ⟨sb, 0, none⟩)] w fun e w' => ∃ ao c, e = .returned (.slice ao 0 c) ∧ Below w.heap.size w w' := by
  obtain ⟨F, hm, hF⟩ := h.tmap
  obtain ⟨D, hown, hsz, _, hhas⟩ := hm.has
  have hk := keys_none hsz
  have c0 : w.cell? ⟨sb, 0, none⟩ = some (.map (some tb)) := by simp [World.cell?, h.sblk]
  have HO : Hid (w.ownsMap Ybaz.prog 9 valElem tb 0 D) := hown
  clear h hhas hown hm
  refine (callsIn_wide (n := 6)).1 ?_
  have hfK : Fence.wide.fn 28 := trivial
  have hfS : Fence.wide.fn 27 := trivial
  refine callsIn_of_wp Ybaz.func19 rfl trivial ?_ rfl
  simp only [Ybaz.ntmps19, List.size_toArray, List.length_cons, List.length_nil, Nat.reduceAdd, Nat.reduceSub, Array.replicate_succ, Array.replicate_zero, List.push_toArray, List.append_toArray, List.nil_append, List.cons_append]
  gi_wp2_with (first
    | (gi_at_call 28; refine (Ybaz.maps_Keys_28 _ _).mono ?_; rintro e w' ⟨rfl, rfl⟩)
    | (gi_at_call 27; refine (Ybaz.slices_Sorted_keys_27_28 tb 0 D valElem w HO.out (by rw [hsz]; unfold maxLen; omega) (by rw [hsz]; omega)).mono ?_; rintro e w' ⟨v, ss, rfl, hS, hrow, hnil, hb⟩))
  go_ret
  rw [hk] at hS
  have hss : ss = [] := List.perm_nil.1 hS
  subst hss
  have hsort : (([] : List (List UInt8)).mergeSort (fun x y => decide (x ≤ y))) = [] := by simp
  rw [hsort] at hrow
  have hform : ∃ ao c, v = .slice ao 0 c := by
    obtain ⟨_, ⟨e, _⟩ | ⟨g, c, _, e, _⟩⟩ := hrow
    · exact ⟨none, 0, e⟩
    · exact ⟨_, c, e⟩
  obtain ⟨ao, c, rfl⟩ := hform
  exact ⟨ao, c, rfl, ((Below.refl _ w).alloc (Nat.le_refl _) _).trans (hb.mono (by simp))⟩

set_option maxRecDepth 100000 in
set_option maxHeartbeats 1000000 in
theorem tick_none {W w : World} {sb tb : Nat} {start : Int} (h : Gone W w sb tb start) :
    Calls Ybaz.prog 10 #[.pointer (some ⟨sb, 0, none⟩), .pointer none] w fun e w' => e = .returned (.slice none 0 0) ∧ Gone W w' sb tb start ∧ Below w.heap.size w w' := by
  have HT : Hid (Calls Ybaz.prog 19 #[.pointer (some ⟨sb, 0, none⟩)] w fun e w' => ∃ ao c, e = .returned (.slice ao 0 c) ∧ Below w.heap.size w w') := topics_zero h
  have HG : Hid (Gone W w sb tb start) := h
  clear h
  go_enter Ybaz.func10, Ybaz.ntmps10
  go_wp2_with (first
    | (go_at_call 19; refine HT.out.mono ?_; rintro e w1 ⟨ao, c, rfl, hb1⟩))
  refine wp_loop_rounds 1 ?_
  rw [rounds_succ]
  go_wp2
  go_ret
  exact ⟨rfl, HG.out.later hb1, hb1⟩

set_option maxRecDepth 100000 in
set_option maxHeartbeats 1000000 in
theorem subs_none {W w : World} {sb tb : Nat} {start : Int} (topic : ByteArray) (ht : topic.size ≤ maxLen) (h : Gone W w sb tb start) :
    Calls Ybaz.prog 9 #[.pointer (some ⟨sb, 0, none⟩), .string topic] w fun e w' => e = .returned (.slice none 0 0) ∧ w' = w := by
  obtain ⟨F, hm, hF⟩ := h.tmap
  have s0 : w.cell? ⟨sb, 0, none⟩ = some (.map (some tb)) := by simp [World.cell?, h.sblk]
  have hl : (Instr.lookup 53 (.map (some tb)) (.string topic) false).run Ybaz.prog w = .ok (.pointer none) w := by
    rw [hm.lookup Ybaz.underlying53 (z := .pointer none) (by kernel_rfl) topic ht, hF]; rfl
  clear h hm
  go_enter Ybaz.func9, Ybaz.ntmps9
  go_wp2
  go_ret
  exact ⟨rfl, rfl⟩

set_option maxRecDepth 100000 in
theorem cname (a : Nat) (ha : a < 6) (w : World) : Calls Ybaz.prog 13 #[.int .i64 a] w fun e w' => e = .returned (.string (nm a)) ∧ w' = w := by
  have hh : a = 0 ∨ a = 1 ∨ a = 2 ∨ a = 3 ∨ a = 4 ∨ a = 5 := by omega
  rcases hh with rfl | rfl | rfl | rfl | rfl | rfl
  all_goals (
    go_enter Ybaz.func13, Ybaz.ntmps13
    go_wp2
    go_ret
    exact ⟨rfl, rfl⟩)

set_option maxRecDepth 100000 in
set_option maxHeartbeats 1000000 in
theorem cidx (a : Nat) (h0 : 0 < a) (ha : a < 6) (w : World) : Calls Ybaz.prog 14 #[.string (nm a)] w fun e w' => e = .returned (.int .i64 a) ∧ w' = w := by
  have HC : Hid (∀ (b : Nat), b < 6 → Calls Ybaz.prog 13 #[.int .i64 b] w fun e w' => e = .returned (.string (nm b)) ∧ w' = w) := fun b hb => cname b hb w
  go_enter Ybaz.func14, Ybaz.ntmps14
  go_wp2
  go_loopw [3] (fun i wr => ∃ k : Nat, 1 ≤ k ∧ k ≤ a ∧ i = .int .i64 k ∧ wr = w) (fun i _ => a - (intOf i).toNat)
  case atStart => exact ⟨1, by omega, by omega, rfl, rfl⟩
  case round =>
    obtain ⟨k, hk1, hka, rfl, rfl⟩ := hrel
    have i1 : (k : Int) < 6 := by omega
    by_cases hk : k = a
    · subst hk
      have HCk := HC.out k ha
      go_wp2_with (go_at_call 13; refine HCk.mono ?_; rintro e w' ⟨rfl, rfl⟩)
      go_ret
      exact ⟨rfl, rfl⟩
    · have HCk := HC.out k (by omega)
      have hd := nm_diff (a := k) (b := a) (by omega) ha hk
      go_wp2_with (go_at_call 13; refine HCk.mono ?_; rintro e w' ⟨rfl, rfl⟩)
      exact ⟨⟨k + 1, by omega, by omega, by go_num, by trivial⟩, by simp [intOf]; omega⟩
end Go.Proofs.YbulkclxkGreat.rep
