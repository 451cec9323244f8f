import Derived.Test.YbulkclxkGreatPut
import Derived.Laws.IdiomStrings
namespace Go.Proofs.YbulkclxkGreat.hold
open Go.ChangeShapes Go.WideShapes Go.ChangeAt Go.RowKit
open lab ring maps sup put
set_option linter.unusedVariables false

def peer (p : Pr) : Value := .agg #[.string p.a, .int .u64 p.b, .int .u8 p.n]

set_option maxRecDepth 100000 in
set_option maxHeartbeats 1000000 in
theorem hold_of (sb rb : Nat) (topic : ByteArray) (p : Pr) (w : World) (Mid Fin : World → Prop)
    (h15 : Calls Ybaz.prog 15 #[.pointer (some ⟨sb, 0, none⟩), .string topic] (w.alloc (.cells #[.string p.a, .int .u64 p.b, .int .u8 p.n] 31)).drew fun e w1 => e = .returned (.pointer (some ⟨rb, 0, none⟩)) ∧ Mid w1 ∧
      (w1.cell? ⟨w.heap.size, 0, none⟩ = some (.string p.a) ∧ w1.cell? ⟨w.heap.size, 1, none⟩ = some (.int .u64 p.b) ∧ w1.cell? ⟨w.heap.size, 2, none⟩ = some (.int .u8 p.n)))
    (h16 : ∀ w1, Mid w1 → Calls Ybaz.prog 16 #[.pointer (some ⟨rb, 0, none⟩), .agg #[.string p.a, .int .u64 p.b, .int .u8 p.n]] w1 fun e w' => e = .returned (.tuple #[]) ∧ Fin w') :
    Calls Ybaz.prog 6 #[.pointer (some ⟨sb, 0, none⟩), .string topic, .agg #[.string p.a, .int .u64 p.b, .int .u8 p.n]] w fun e w' => e = .returned (.tuple #[]) ∧ Fin w' := by
  have H16 : Hid (∀ w1, Mid w1 → Calls Ybaz.prog 16 #[.pointer (some ⟨rb, 0, none⟩), .agg #[.string p.a, .int .u64 p.b, .int .u8 p.n]] w1 fun e w' => e = .returned (.tuple #[]) ∧ Fin w') := h16
  clear h16
  go_enter Ybaz.func6, Ybaz.ntmps6
  go_wp2
  have hbx : ∀ j, (w.alloc (.cells #[.string p.a, .int .u64 p.b, .int .u8 p.n] 31)).drew.cell? ⟨w.heap.size, j, none⟩ = (#[.string p.a, .int .u64 p.b, .int .u8 p.n] : Array Value)[j]? := fun j => by
    show (w.alloc _).cell? _ = _
    rw [World.cell?_alloc_at _ _ _ _ rfl]
  have k0 := hbx 0
  have k1 := hbx 1
  have k2 := hbx 2
  clear hbx
  go_region_with
    (first
      | (go_at_call 15; refine h15.mono ?_; rintro e w1 ⟨rfl, hmid, p0, p1, p2⟩)
      | (go_at_call 16; refine (H16.out _ hmid).mono ?_; rintro e w2 ⟨rfl, hfin⟩))
  all_goals go_wp2
  all_goals go_end0
  all_goals exact ⟨rfl, hfin⟩


/-- The supervisor at sb with its one topic. -/
structure St (W w : World) (sb tb rb lb B : Nat) (topic : ByteArray) (start : Int) (L : List Pr) (n : Nat) (G : ByteArray → List (Int × Int)) (t0 t1 : Int) : Prop where
  bel : Below W.heap.size W w
  hs : W.heap.size ≤ sb ∧ W.heap.size ≤ tb ∧ W.heap.size ≤ rb ∧ W.heap.size ≤ lb
  hB : sb < B ∧ tb < B
  ne : sb ≠ rb ∧ sb ≠ lb ∧ tb ≠ rb ∧ tb ≠ lb
  sblk : w.heap[sb]? = some (.cells #[.map (some tb), .int .u64 start] 55 (0, 0))
  tmap : MapAt w tb (fun y => if y = topic then some (.pointer (some ⟨rb, 0, none⟩)) else none) 1
  ros : ∃ v f, Ros w B rb lb L n G t0 t1 start v f

section
variable {W w w' : World} {sb tb rb lb B n : Nat} {topic : ByteArray} {start : Int} {L : List Pr} {G : ByteArray → List (Int × Int)} {t0 t1 : Int}
theorem St.szW (h : St W w sb tb rb lb B topic start L n G t0 t1) : W.heap.size ≤ w.heap.size ∧ sb < w.heap.size ∧ tb < w.heap.size ∧ rb < w.heap.size ∧ lb < w.heap.size ∧ W.heap.size ≤ B := by
  obtain ⟨v, f, hr⟩ := h.ros
  have := hr.hB; have := hr.hrb; have := hr.hlb; have := h.hB; have := h.bel.size; have := h.hs
  omega
theorem St.later (h : St W w sb tb rb lb B topic start L n G t0 t1) (hb : Below w.heap.size w w') : St W w' sb tb rb lb B topic start L n G t0 t1 := by
  have hz := h.szW
  obtain ⟨v, f, hr⟩ := h.ros
  exact { bel := h.bel.trans (hb.mono hz.1), hs := h.hs, hB := h.hB, ne := h.ne, sblk := (hb.block _ hz.2.1).trans h.sblk, tmap := h.tmap.of_block (hb.block _ hz.2.2.1), ros := ⟨v, f, hr.later hb⟩ }
theorem St.turn {L' : List Pr} {n' : Nat} {G' : ByteArray → List (Int × Int)} {t0' t1' : Int} (h : St W w sb tb rb lb B topic start L n G t0 t1) (hr : ∃ v f, Ros w' B rb lb L' n' G' t0' t1' start v f) (ht : Turned (fun j => j = rb ∨ j = lb ∨ B ≤ j) w w') :
    St W w' sb tb rb lb B topic start L' n' G' t0' t1' := by
  have hz := h.szW
  have hB := h.hB
  have hs := h.hs
  have ne := h.ne
  exact { bel := h.bel.trans (ht.below hz.1 (fun k hk hs => by omega)), hs := h.hs, hB := h.hB, ne := h.ne, sblk := (ht.block _ hz.2.1 (by omega)).trans h.sblk, tmap := h.tmap.of_block (ht.block _ hz.2.2.1 (by omega)), ros := hr }
end

theorem hold_next (W : World) (sb tb rb lb B n i : Nat) (topic : ByteArray) (start : Int) (L : List Pr) (G : ByteArray → List (Int × Int)) (t0 t1 : Int) (p : Pr) (w : World) (ht : topic.size ≤ maxLen) (h : St W w sb tb rb lb B topic start L n G t0 t1)
    (hL : L.length ≤ 1000) (hn : n ≤ 1000) (hG : (G p.a).length ≤ 1000) (ha : p.a.toList.isEmpty = false) (has : p.a.size ≤ maxLen) (hln : ∀ q ∈ L, 0 ≤ q.n ∧ q.n ≤ 64) (hpn : 0 ≤ p.n ∧ p.n ≤ 64) (hs : Sought (nth L) L.length p.b p.n i false) :
    Calls Ybaz.prog 6 #[.pointer (some ⟨sb, 0, none⟩), .string topic, .agg #[.string p.a, .int .u64 p.b, .int .u8 p.n]] w fun e w' => e = .returned (.tuple #[]) ∧
      St W w' sb tb rb lb B topic start (L.take i ++ p :: L.drop i) (if (G p.a).isEmpty then n + 1 else n) (fun x => if x = p.a then G x ++ [(p.b, p.n)] else G x) t0 t1 := by
  have hb1 : Below w.heap.size w (w.alloc (.cells #[.string p.a, .int .u64 p.b, .int .u8 p.n] 31)).drew := ((Below.refl _ _).alloc (Nat.le_refl _) _).drew
  have h1 := h.later hb1
  have hz := h.szW
  have hbx : ∀ j, (w.alloc (.cells #[.string p.a, .int .u64 p.b, .int .u8 p.n] 31)).drew.cell? ⟨w.heap.size, j, none⟩ = (#[.string p.a, .int .u64 p.b, .int .u8 p.n] : Array Value)[j]? := fun j => by
    show (w.alloc _).cell? _ = _
    rw [World.cell?_alloc_at _ _ _ _ rfl]
  have hrb : w.heap.size < B → False := fun hh => by obtain ⟨v, f, hr⟩ := h.ros; have := hr.hB; omega
  refine hold_of sb rb topic p w (fun w1 => w1 = (w.alloc (.cells #[.string p.a, .int .u64 p.b, .int .u8 p.n] 31)).drew) (fun w' => St W w' sb tb rb lb B topic start (L.take i ++ p :: L.drop i) (if (G p.a).isEmpty then n + 1 else n) (fun x => if x = p.a then G x ++ [(p.b, p.n)] else G x) t0 t1) ?_ ?_
  · refine (roster_old sb tb 1 start _ topic (.pointer (some ⟨rb, 0, none⟩)) _ ht h1.tmap (by simp) ⟨_, rfl⟩ (by simp [World.cell?, h1.sblk])).mono ?_
    rintro e w1 ⟨rfl, rfl⟩
    exact ⟨rfl, rfl, hbx 0, hbx 1, hbx 2⟩
  · rintro w1 rfl
    obtain ⟨v, f, hr⟩ := h1.ros
    refine (put_new B rb lb n i L G t0 t1 start v f p _ hr hL hn hG ha has hln hpn hs).mono ?_
    rintro e w' ⟨rfl, hr', ht'⟩
    exact ⟨rfl, h1.turn hr' ht'⟩

theorem hold_first (W : World) (sb tb : Nat) (topic : ByteArray) (start : Int) (p : Pr) (w : World) (ht : topic.size ≤ maxLen) (hbel : Below W.heap.size W w) (hsb : W.heap.size ≤ sb) (htb : W.heap.size ≤ tb) (hsl : sb < w.heap.size)
    (sblk : w.heap[sb]? = some (.cells #[.map (some tb), .int .u64 start] 55 (0, 0))) (tmap : MapAt w tb (fun _ => none) 0)
    (ha : p.a.toList.isEmpty = false) (has : p.a.size ≤ maxLen) (hpn : 0 ≤ p.n ∧ p.n ≤ 64) :
    Calls Ybaz.prog 6 #[.pointer (some ⟨sb, 0, none⟩), .string topic, .agg #[.string p.a, .int .u64 p.b, .int .u8 p.n]] w fun e w' => e = .returned (.tuple #[]) ∧
      ∃ rb lb B, St W w' sb tb rb lb B topic start [p] 1 (fun x => if x = p.a then [(p.b, p.n)] else []) 0 0 := by
  have hb1 : Below w.heap.size w (w.alloc (.cells #[.string p.a, .int .u64 p.b, .int .u8 p.n] 31)).drew := ((Below.refl _ _).alloc (Nat.le_refl _) _).drew
  have hbx : ∀ j, (w.alloc (.cells #[.string p.a, .int .u64 p.b, .int .u8 p.n] 31)).drew.cell? ⟨w.heap.size, j, none⟩ = (#[.string p.a, .int .u64 p.b, .int .u8 p.n] : Array Value)[j]? := fun j => by
    show (w.alloc _).cell? _ = _
    rw [World.cell?_alloc_at _ _ _ _ rfl]
  have htl := tmap.lt
  have hsz : (w.alloc (.cells #[.string p.a, .int .u64 p.b, .int .u8 p.n] 31)).drew.heap.size = w.heap.size + 1 := by simp
  have s1 := (hb1.block sb hsl).trans sblk
  have t1 := tmap.of_block (hb1.block tb htl)
  have hne : sb ≠ tb := by
    intro e
    obtain ⟨es, cl, hbk⟩ := tmap.isMapBlock
    rw [← e, sblk] at hbk; simp at hbk
  have hWw := hbel.size
  have hbel1 : Below W.heap.size W (w.alloc (.cells #[.string p.a, .int .u64 p.b, .int .u8 p.n] 31)).drew := hbel.trans (hb1.mono hWw)
  generalize hw0 : (w.alloc (.cells #[.string p.a, .int .u64 p.b, .int .u8 p.n] 31)).drew = w0 at *
  refine hold_of sb (w.heap.size + 2) topic p w (fun w1 => St W w1 sb tb (w.heap.size + 2) (w.heap.size + 1) (w.heap.size + 3) topic start [] 0 (fun _ => []) 0 0) (fun w' => ∃ rb lb B, St W w' sb tb rb lb B topic start [p] 1 (fun x => if x = p.a then [(p.b, p.n)] else []) 0 0) ?_ ?_
  · rw [hw0]
    refine (roster_new sb tb 0 start _ topic w0 ht (by omega) t1 rfl (by simp [World.cell?, s1]) (by simp [World.cell?, s1])).mono ?_
    rintro e w1 ⟨rfl, m1, m2, b1, hg, hs1⟩
    rw [hsz] at m1 m2 b1 hs1 ⊢
    refine ⟨rfl, ?_, hg.cell (hbx 0) (by simp; omega), hg.cell (hbx 1) (by simp; omega), hg.cell (hbx 2) (by simp; omega)⟩
    refine { bel := hbel1.grown hg (by omega) (fun k hk => by simp at hk; omega), hs := by omega, hB := by omega, ne := by omega, sblk := (hg.block sb (by omega) (by simp; omega)).trans s1, tmap := m1, ros := ⟨.slice none 0 0, fun _ => none, ?_⟩ }
    exact { hB := by omega, hrb := by omega, hlb := by omega, own := ⟨rfl, .inl ⟨rfl, rfl⟩⟩, blk := b1, map := m2, keys := fun _ => rfl, rows := fun _ => ⟨rfl, .inl ⟨rfl, rfl⟩⟩, sepv := fun _ _ h => by simp [zr, Value.ownBlock] at h, sep := fun _ _ _ _ h => by simp [zr, Value.ownBlock] at h }
  · intro w1 h1
    obtain ⟨v, f, hr⟩ := h1.ros
    refine (put_new _ _ _ 0 0 [] (fun _ => []) 0 0 start v f p _ hr (by simp) (by omega) (by simp) ha has (by simp) hpn ⟨by simp, fun j hj => by omega, fun j _ hj => by simp at hj, fun h => by simp at h, fun _ h => by simp at h⟩).mono ?_
    rintro e w' ⟨rfl, hr', ht'⟩
    exact ⟨rfl, _, _, _, h1.turn hr' ht'⟩

set_option maxRecDepth 100000 in
theorem newSup (start : Int) (w : World) : Calls Ybaz.prog 5 #[.int .u64 start] w fun e w' => e = .returned (.pointer (some ⟨w.heap.size + 1, 0, none⟩)) ∧ w' = (w.alloc (.map #[] 0)).alloc (.cells #[.map (some w.heap.size), .int .u64 start] 55) := by
  have hmk := @run_makeMap Ybaz.prog
  go_enter Ybaz.func5, Ybaz.ntmps5
  go_wp2
  go_ret
  exact ⟨rfl, rfl⟩

def adr (i : Nat) : ByteArray := ⟨#[115, UInt8.ofNat (48 + i)]⟩

set_option maxRecDepth 100000 in
theorem caddr (i : Nat) (hi : i < 40) (w : World) : Calls Ybaz.prog 7 #[.int .i64 i] w fun e w' => e = .returned (.string (adr i)) ∧ Below w.heap.size w w' := by
  have hc : (convert 59 9 (.slice (some ⟨w.heap.size, 0, none⟩) 2 2)).run Ybaz.prog (w.alloc (.cells #[.int .u8 115, .int .u8 (48 + (i : Int))] 5)) = .ok (.string (adr i)) (w.alloc (.cells #[.int .u8 115, .int .u8 (48 + (i : Int))] 5)) := by
    refine run_convert_bytes_back (P := Ybaz.prog) _ 59 9 5 ⟨w.heap.size, 0, none⟩ 2 [115, UInt8.ofNat (48 + i)] (by kernel_rfl) (by kernel_rfl) (by kernel_rfl) ?_
    intro j hj
    have h2 : j < 2 := hj
    rcases (show j = 0 ∨ j = 1 by omega) with rfl | rfl
    · show (w.alloc _).cell? ⟨w.heap.size, 0, none⟩ = _
      rw [World.cell?_alloc_at _ _ _ _ rfl]; rfl
    · show (w.alloc _).cell? ⟨w.heap.size, 1, none⟩ = _
      rw [World.cell?_alloc_at _ _ _ _ rfl]
      have hx : (UInt8.ofNat (48 + i)).toNat = 48 + i := by rw [UInt8.toNat_ofNat']; omega
      simp only [List.getElem_cons_succ, List.getElem_cons_zero, hx]
      simp
  go_enter Ybaz.func7, Ybaz.ntmps7
  go_wp2
  go_ret
  exact ⟨rfl, (Below.refl _ _).alloc (Nat.le_refl _) _⟩
end Go.Proofs.YbulkclxkGreat.hold
