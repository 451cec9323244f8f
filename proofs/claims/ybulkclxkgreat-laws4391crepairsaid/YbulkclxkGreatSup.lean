import Derived.Test.YbulkclxkGreatInsert
import Derived.Test.YbulkclxkGreatMaps
import Derived.Deep.AppendLies
import Derived.Deep.RegionHeld3
namespace Go.Proofs.YbulkclxkGreat.sup
open Go.ChangeShapes Go.WideShapes Go.ChangeAt Go.RowKit
open lab ring maps
set_option linter.unusedVariables false

/-- 'm[s]' at the operation. -/
theorem wpList_lookup_at (w : World) {ops : Array Oper} {rest : List Oper} {o : Oper} {a : Act} {Q : Exit → Act → World → Prop}
    (hg : o.guard = none) (m x : Operand) (t : TypeId) (hop : o.op = Op.lookup t m x false) (e : TypeId) (ht : Ybaz.prog.underlying t = some (.map 9 e)) (z : Value) (hz : (zeroValue e).run Ybaz.prog w = .ok z w)
    (b n : Nat) (f : ByteArray → Option Value) (h : MapAt w b f n) (s : ByteArray) (hs : s.size ≤ maxLen) (hm : a.eval m = .map (some b)) (hx : a.eval x = .string s)
    (hK : wpList Ybaz.prog ops Q rest (a.put o.dst ((f s).getD z)) w) : wpList Ybaz.prog ops Q (o :: rest) a w := by
  refine wpList_plain hg fun K' hK' => ?_
  unfold Oper.wp
  simp [execOp, hop, hm, hx, h.lookup ht hz s hs, Result.andThen]
  exact hK' _ _ hK

/-- 'm[s] = v' at the operation. -/
theorem wpList_mapUpdate_at (w : World) {ops : Array Oper} {rest : List Oper} {o : Oper} {a : Act} {Q : Exit → Act → World → Prop}
    (hg : o.guard = none) (m x v : Operand) (t : TypeId) (hop : o.op = Op.mapUpdate t m x v) (e : TypeId) (ht : Ybaz.prog.underlying t = some (.map 9 e))
    (b n : Nat) (f : ByteArray → Option Value) (h : MapAt w b f n) (hn : n < maxLen) (s : ByteArray) (hs : s.size ≤ maxLen) (val : Value) (hm : a.eval m = .map (some b)) (hx : a.eval x = .string s) (hv : a.eval v = val)
    (hK : ∀ w', MapAt w' b (fun y => if y = s then some val else f y) (if (f s).isSome then n else n + 1) → w.grownBy w' (some b) → w'.heap.size = w.heap.size → wpList Ybaz.prog ops Q rest (a.put o.dst undef) w') :
    wpList Ybaz.prog ops Q (o :: rest) a w := by
  refine wpList_plain hg fun K' hK' => ?_
  obtain ⟨w', hrun, r1, r2, r3⟩ := h.store ht hn s hs val
  unfold Oper.wp
  simp [execOp, hop, hm, hx, hv, hrun, Result.andThen]
  exact hK' _ _ (hK w' r1 r2 r3)

theorem MapAt.alloc {w : World} {b n : Nat} {f : ByteArray → Option Value} (h : MapAt w b f n) (o : Obj) : MapAt (w.alloc o) b f n := h.of_block (Below.heap_alloc w o b h.lt)
theorem MapAt.drew {w : World} {b n : Nat} {f : ByteArray → Option Value} (h : MapAt w b f n) : MapAt w.drew b f n := h.of_block rfl
theorem MapAt.grown {w w' : World} {b n : Nat} {f : ByteArray → Option Value} {row : Option Nat} (h : MapAt w b f n) (hg : w.grownBy w' row) (hne : some b ≠ row) : MapAt w' b f n := h.of_block (hg.block b h.lt hne)
theorem MapAt.below {w w' : World} {b n B : Nat} {f : ByteArray → Option Value} (h : MapAt w b f n) (hg : Below B w w') (hb : b < B) : MapAt w' b f n := h.of_block (hg.block b hb)

set_option maxHeartbeats 1000000 in
theorem roster_old (sb tb n : Nat) (start : Int) (F : ByteArray → Option Value) (topic : ByteArray) (rp : Value) (w : World) (ht : topic.size ≤ maxLen) (hm : MapAt w tb F n) (hf : F topic = some rp) (hrp : ∃ a, rp = .pointer (some a))
    (c0 : w.cell? ⟨sb, 0, none⟩ = some (.map (some tb))) :
    Calls Ybaz.prog 15 #[.pointer (some ⟨sb, 0, none⟩), .string topic] w fun e w' => e = .returned rp ∧ w' = w := by
  obtain ⟨a, rfl⟩ := hrp
  have hl : (Instr.lookup 53 (.map (some tb)) (.string topic) false).run Ybaz.prog w = .ok (.pointer (some a)) w := by
    rw [hm.lookup Ybaz.underlying53 (z := .pointer none) (by kernel_rfl) topic ht, hf]; rfl
  clear hm hf
  go_enter Ybaz.func15, Ybaz.ntmps15
  go_wp2
  go_ret
  exact ⟨rfl, rfl⟩

set_option maxHeartbeats 1000000 in
theorem roster_new (sb tb n : Nat) (start : Int) (F : ByteArray → Option Value) (topic : ByteArray) (w : World) (ht : topic.size ≤ maxLen) (hn : n < 1000) (hm : MapAt w tb F n) (hf : F topic = none)
    (c0 : w.cell? ⟨sb, 0, none⟩ = some (.map (some tb))) (c1 : w.cell? ⟨sb, 1, none⟩ = some (.int .u64 start)) :
    Calls Ybaz.prog 15 #[.pointer (some ⟨sb, 0, none⟩), .string topic] w fun e w' => e = .returned (.pointer (some ⟨w.heap.size + 1, 0, none⟩)) ∧
      MapAt w' tb (fun y => if y = topic then some (.pointer (some ⟨w.heap.size + 1, 0, none⟩)) else F y) (n + 1) ∧ MapAt w' w.heap.size (fun _ => none) 0 ∧
      w'.heap[w.heap.size + 1]? = some (.cells #[.slice none 0 0, .map (some w.heap.size), .int .u64 0, .int .u8 0, .slice none 0 0, .int .u64 start] 66 (0, 0)) ∧ w.grownBy w' (some tb) ∧ w'.heap.size = w.heap.size + 2 := by
  have htb := hm.lt
  have hl : (Instr.lookup 53 (.map (some tb)) (.string topic) false).run Ybaz.prog w = .ok (.pointer none) w := by
    rw [hm.lookup Ybaz.underlying53 (z := .pointer none) (by kernel_rfl) topic ht, hf]; rfl
  have hmm := @run_makeMap Ybaz.prog
  have hsb : sb < w.heap.size := World.block_lt_of_cell? _ _ c0
  have ha : ∀ o1 o2, MapAt ((w.alloc o1).alloc o2) tb F n := fun o1 o2 => MapAt.alloc (MapAt.alloc hm o1) o2
  have HA : Hid (∀ o1 o2, MapAt ((w.alloc o1).alloc o2) tb F n) := ha
  clear hm ha
  go_enter Ybaz.func15, Ybaz.ntmps15
  go_wp2_with (at_mapUpdate; refine wpList_mapUpdate_at _ rfl _ _ _ 53 rfl 56 Ybaz.underlying53 tb n F (HA.out _ _) (by unfold maxLen; omega) topic ht _ rfl rfl rfl ?_)
  intro w1 hm1 hg1 hz1
  go_wp2
  go_ret
  have hz2 : w1.heap.size = w.heap.size + 2 := by rw [hz1]
  refine ⟨rfl, hm1, ?_, ?_, ?_, hz2⟩
  · exact MapAt.grown (MapAt.alloc (MapAt.made w) _) hg1 (by simp; omega)
  · rw [hg1.block (w.heap.size + 1) (by simp) (by simp; omega)]
    have := heap_alloc_new (w.alloc (.map #[] 0)) (.cells #[.slice none 0 0, .map (some w.heap.size), .int .u64 0, .int .u8 0, .slice none 0 0, .int .u64 start] 66)
    rwa [World.size_alloc] at this
  · exact grownBy_trans (grownBy_trans (World.grownBy_alloc w _ _) (World.grownBy_alloc _ _ _)) hg1

/-- What the world is but for the blocks of S and new ones. -/
structure Turned (S : Nat → Prop) (w w' : World) : Prop where
  os : w'.os = w.os
  tape : w'.tape = w.tape
  output : w'.output = w.output
  size : w.heap.size ≤ w'.heap.size
  block : ∀ k, k < w.heap.size → ¬ S k → w'.heap[k]? = w.heap[k]?

theorem Turned.refl (S : Nat → Prop) (w : World) : Turned S w w := ⟨rfl, rfl, rfl, Nat.le_refl _, fun _ _ _ => rfl⟩
theorem Turned.trans {S : Nat → Prop} {a b c : World} (h : Turned S a b) (k : Turned S b c) : Turned S a c :=
  ⟨k.os.trans h.os, k.tape.trans h.tape, k.output.trans h.output, Nat.le_trans h.size k.size, fun i hi hn => (k.block i (Nat.lt_of_lt_of_le hi h.size) hn).trans (h.block i hi hn)⟩
theorem Turned.mono {S T : Nat → Prop} {a b : World} (h : Turned S a b) (hs : ∀ k, k < a.heap.size → S k → T k) : Turned T a b :=
  ⟨h.os, h.tape, h.output, h.size, fun i hi hn => h.block i hi (fun hS => hn (hs i hi hS))⟩
theorem Turned.of_grown {a b : World} {row : Option Nat} (h : a.grownBy b row) : Turned (fun k => some k = row) a b :=
  ⟨h.os, h.tape, h.output, h.size, fun i hi hn => h.block i hi hn⟩
theorem Turned.of_below {a b : World} {B : Nat} (h : Below B a b) : Turned (fun k => B ≤ k) a b :=
  ⟨h.os, h.tape, h.output, h.size, fun i _ hn => h.block i (by omega)⟩
theorem Turned.below {S : Nat → Prop} {a b : World} {B : Nat} (h : Turned S a b) (hB : B ≤ a.heap.size) (hs : ∀ k, k < B → ¬ S k) : Below B a b :=
  ⟨h.os, h.tape, h.output, h.size, fun i hi => h.block i (Nat.lt_of_lt_of_le hi hB) (hs i hi)⟩
theorem Turned.alloc {S : Nat → Prop} {a b : World} (h : Turned S a b) (o : Obj) : Turned S a (b.alloc o) :=
  h.trans ⟨rfl, rfl, rfl, by simp, fun k hk _ => Below.heap_alloc _ _ _ hk⟩
theorem Turned.drew {S : Nat → Prop} {a b : World} (h : Turned S a b) : Turned S a b.drew := ⟨h.os, h.tape, h.output, h.size, h.block⟩

theorem info28 : (Ybaz.prog.info? 28).map (fun i => (i.zero, i.size, i.bytes)) = some (some (.agg #[.int .u64 0, .int .u8 0]), 2, 16) := by kernel_rfl

theorem look63 {wx : World} {lb n : Nat} {f : ByteArray → Option Value} (h : MapAt wx lb f n) (s : ByteArray) (hs : s.size ≤ maxLen) : (Instr.lookup 63 (.map (some lb)) (.string s) false).run Ybaz.prog wx = .ok ((f s).getD (.slice none 0 0)) wx :=
  h.lookup Ybaz.underlying63 (by kernel_rfl) s hs

set_option maxRecDepth 100000 in
set_option maxHeartbeats 2000000 in
theorem index_any (B rb lb n k : Nat) (f : ByteArray → Option Value) (ad : ByteArray) (tb tn : Int) (cs : List Value) (w : World) (ha : ad.toList.isEmpty = false) (hs : ad.size ≤ maxLen) (hn : n < 100000) (hk : k < 100000) (hB : B ≤ w.heap.size)
    (hm : MapAt w lb f n) (c1 : w.cell? ⟨rb, 1, none⟩ = some (.map (some lb))) (hown : w.ownsRow B 28 2 ((f ad).getD (.slice none 0 0)) k cs) (hne : ((f ad).getD (.slice none 0 0)).ownBlock ≠ some lb) (hne' : ((f ad).getD (.slice none 0 0)).ownBlock ≠ some rb) :
    Calls Ybaz.prog 26 #[.pointer (some ⟨rb, 0, none⟩), .agg #[.string ad, .int .u64 tb, .int .u8 tn]] w fun e w' => e = .returned (.tuple #[]) ∧ ∃ v', w'.ownsRow B 28 2 v' (k + 1) (cs ++ [.int .u64 tb, .int .u8 tn]) ∧
      MapAt w' lb (fun x => if x = ad then some v' else f x) (if (f ad).isSome then n else n + 1) ∧ Turned (fun j => j = lb ∨ some j = ((f ad).getD (.slice none 0 0)).ownBlock) w w' ∧ (((f ad).getD (.slice none 0 0)).ownBlock = v'.ownBlock ∨ ∃ j, v'.ownBlock = some j ∧ w.heap.size ≤ j) := by
  obtain ⟨i0, hi0, hz0, hzs, hzb⟩ := info_parts info28
  have hrb : rb < w.heap.size := World.block_lt_of_cell? _ _ c1
  have hlb := hm.lt
  have hrl : rb ≠ lb := by
    intro e
    obtain ⟨es, cl, hbk⟩ := hm.isMapBlock
    rw [e] at c1
    simp [World.cell?, hbk] at c1
  generalize hnn : (if (f ad).isSome = true then n else n + 1) = nn
  generalize hv0 : (f ad).getD (.slice none 0 0) = v0 at hown hne hne' ⊢
  have hl0 := look63 (wx := ((w.alloc (.cells #[.string ad, .int .u64 tb, .int .u8 tn] 31)).alloc (.cells #[.string ad, .int .u64 tb, .int .u8 tn] 31)).drew) (MapAt.alloc (MapAt.alloc hm _) _) ad hs
  have hl1 := fun o => look63 (wx := (((w.alloc (.cells #[.string ad, .int .u64 tb, .int .u8 tn] 31)).alloc (.cells #[.string ad, .int .u64 tb, .int .u8 tn] 31)).alloc o).drew) (MapAt.alloc (MapAt.alloc (MapAt.alloc hm _) _) o) ad hs
  rw [hv0] at hl0
  simp only [hv0] at hl1
  have hp2 : ∀ o1 o2, ((w.alloc o1).alloc o2).cell? ⟨rb, 1, none⟩ = some (.map (some lb)) := fun o1 o2 => by
    rw [World.cell?_alloc_past _ _ _ (by simp; omega), World.cell?_alloc_past _ _ _ hrb]; exact c1
  have hp3 : ∀ o1 o2 o3, (((w.alloc o1).alloc o2).alloc o3).cell? ⟨rb, 1, none⟩ = some (.map (some lb)) := fun o1 o2 o3 => by
    rw [World.cell?_alloc_past _ _ _ (by simp; omega)]; exact hp2 o1 o2
  have hq : ∀ j o2 o3, (((w.alloc (.cells #[.string ad, .int .u64 tb, .int .u8 tn] 31)).alloc o2).alloc o3).cell? ⟨w.heap.size, j, none⟩ = (#[.string ad, .int .u64 tb, .int .u8 tn] : Array Value)[j]? := fun j o2 o3 => by
    rw [World.cell?_alloc_past _ _ _ (by simp; omega), World.cell?_alloc_past _ _ _ (by simp), World.cell?_alloc_at _ _ _ _ rfl]
  have hnew : ∀ o1 o2 o3, (((w.alloc o1).alloc o2).alloc o3).heap[w.heap.size + 2]? = some o3 := fun o1 o2 o3 => by
    have := heap_alloc_new ((w.alloc o1).alloc o2) o3
    rwa [World.size_alloc, World.size_alloc] at this
  have HM : Hid (MapAt w lb f n) := hm
  clear hm
  go_enter Ybaz.func26, Ybaz.ntmps26
  go_wp2_with (go_at_call 33; refine (peerNone ad tb tn _).mono ?_; rintro e w' ⟨rfl, rfl⟩)
  go_region_held3 (fun w' => w'.cell? ⟨rb, 1, none⟩ = some (.map (some lb)) ∧ w'.cell? ⟨w.heap.size, 0, none⟩ = some (.string ad) ∧ w'.cell? ⟨w.heap.size, 1, none⟩ = some (.int .u64 tb) ∧ w'.cell? ⟨w.heap.size, 2, none⟩ = some (.int .u8 tn))
    (first | exact ⟨q0, q1, q2, q3⟩ | exact ⟨p0, p1, p2, p3⟩ | go_keep)
    ((refine step_append_lies _ (by rfl) _ _ _ (by rfl) B 28 i0 _ 2 16 Ybaz.underlying83 hi0 hz0 hzs hzb rfl (by omega) v0 k cs (by rfl) (((hown.alloc _).alloc _).alloc _).drew
        ⟨w.heap.size + 2, 0, none⟩ 1 1 [.int .u64 tb, .int .u8 tn] (by rfl) (by rfl) (World.news_of_block (cs := #[.int .u64 tb, .int .u8 tn]) (t := 28) (fr := (0, 0)) (hnew _ _ _)) (by simp [Value.oneCell'])
        (by omega) (by unfold maxLen; omega) (by omega) (by simp; omega) (w.heap.size + 3) (by simp) ?_; intro gg cap w1 hown1 hgrow hat hlt
      have hv0b : ∀ g, v0.ownBlock = some g → g < w.heap.size := fun g hg => (hown.lt g hg).2
      have p0 : w1.cell? ⟨rb, 1, none⟩ = some (.map (some lb)) := hgrow.cell (hp3 _ _ _) (Ne.symm hne')
      have p1 : w1.cell? ⟨w.heap.size, 0, none⟩ = some (.string ad) := hgrow.cell (hq 0 _ _) (fun e => Nat.lt_irrefl _ (hv0b _ e.symm))
      have p2 : w1.cell? ⟨w.heap.size, 1, none⟩ = some (.int .u64 tb) := hgrow.cell (hq 1 _ _) (fun e => Nat.lt_irrefl _ (hv0b _ e.symm))
      have p3 : w1.cell? ⟨w.heap.size, 2, none⟩ = some (.int .u8 tn) := hgrow.cell (hq 2 _ _) (fun e => Nat.lt_irrefl _ (hv0b _ e.symm))
      obtain ⟨w2, hup, hm2, hg2, hsz2⟩ := (MapAt.grown (MapAt.drew (MapAt.alloc (MapAt.alloc (MapAt.alloc HM.out _) _) _)) hgrow (Ne.symm hne)).store Ybaz.underlying63 (by unfold maxLen; omega) ad hs (.slice (some ⟨gg, 0, none⟩) (k + 1) cap)
      have q0 : w2.cell? ⟨rb, 1, none⟩ = some (.map (some lb)) := hg2.cell p0 (by simp; exact hrl)
      have q1 : w2.cell? ⟨w.heap.size, 0, none⟩ = some (.string ad) := hg2.cell p1 (by simp; omega)
      have q2 : w2.cell? ⟨w.heap.size, 1, none⟩ = some (.int .u64 tb) := hg2.cell p2 (by simp; omega)
      have q3 : w2.cell? ⟨w.heap.size, 2, none⟩ = some (.int .u8 tn) := hg2.cell p3 (by simp; omega)))
  all_goals go_wp2
  all_goals go_end0
  all_goals (
    rw [hnn] at hm2
    have hglb : gg ≠ lb := by
      rcases hat with e | e
      · rw [e] at hne; simpa using hne
      · omega
    refine ⟨rfl, .slice (some ⟨gg, 0, none⟩) (k + 1) cap, hown1.kept hg2 (.inr (by simpa [Value.ownBlock] using hglb)), hm2, ?_, ?_⟩
    · exact ((((((Turned.refl _ w).alloc _).alloc _).alloc _).drew).trans ((Turned.of_grown hgrow).mono (fun j _ hj => .inr hj))).trans ((Turned.of_grown hg2).mono (fun j _ hj => .inl (by simpa using hj)))
    · rcases hat with e | e
      · left; rw [e]; rfl
      · right; exact ⟨gg, rfl, by omega⟩)
end Go.Proofs.YbulkclxkGreat.sup
