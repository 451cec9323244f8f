/-
  MAPS KEYED BY STRINGS, AS FUNCTIONS FROM STRINGS TO THE VALUES THEMSELVES: 'MapAt w b f n': block b is a map of n entries; at the string s it holds f s. Over Derived/Maps (ownsMap) with the reader 'valElem' that hands the value itself over.
-/
import Derived.Test.YbulkclxkGreatRows
import Derived.WalkKit
import Derived.Maps.OwnSet
import Derived.Maps.OwnOps
namespace Go.Proofs.YbulkclxkGreat.maps
open Go.RowKit
open Go.Maps (Keyed string_keyed)
set_option linter.unusedVariables false

def valElem (v : Value) : Option (DataW Value × List MemPlace) := some (.held v, [])
theorem law : Keyed Ybaz.prog 9 := string_keyed Ybaz.underlying9

/-- How a value that may lack reads. -/
def rd : Option Value → DataW Value
  | some v => .held v
  | none => .nil
theorem rd_inj {a b : Option Value} (h : rd a = rd b) : a = b := by
  cases a <;> cases b <;> simp_all [rd]

abbrev kl (s : ByteArray) : Lit := .string s.data.toList
theorem kl_inj {s t : ByteArray} (h : kl s = kl t) : s = t := by
  simp only [kl, Lit.string.injEq] at h
  cases s; cases t
  rename_i a b
  have : a = b := Array.ext' h
  rw [this]

/-- BLOCK b IS A MAP OF n ENTRIES; AT s IT HOLDS f s. -/
def MapAt (w : World) (b : Nat) (f : ByteArray → Option Value) (n : Nat) : Prop :=
  ∃ D, w.ownsMap Ybaz.prog 9 valElem b n D ∧ Maps.size D = n ∧ ∀ s : ByteArray, s.size ≤ maxLen → D.atKey (kl s) .nil = rd (f s)

variable {w w' : World} {b n : Nat} {f : ByteArray → Option Value}

theorem tight {D : DataW Value} {m : Nat} (h : w.ownsMap Ybaz.prog 9 valElem b m D) : w.ownsMap Ybaz.prog 9 valElem b (Maps.size D) D := by
  obtain ⟨es, clock, hb, F, hs, hD⟩ := h
  refine ⟨es, clock, hb, F, ?_, hD⟩
  rw [hD]
  simp [Maps.size, length_sorted]

theorem MapAt.made (w : World) : MapAt (w.alloc (.map #[] 0)) w.heap.size (fun _ => none) 0 :=
  ⟨.map [], World.ownsMap_made w _ _ _, rfl, fun s _ => rfl⟩

theorem MapAt.lt (h : MapAt w b f n) : b < w.heap.size := by
  obtain ⟨D, h, _⟩ := h
  exact h.lt

theorem MapAt.of_block (h : MapAt w b f n) (hb : w'.heap[b]? = w.heap[b]?) : MapAt w' b f n := by
  obtain ⟨D, ⟨es, clock, hb', F, hs, hD⟩, h1, h2⟩ := h
  exact ⟨D, ⟨es, clock, hb.trans hb', F, hs, hD⟩, h1, h2⟩

theorem MapAt.isMapBlock (h : MapAt w b f n) : ∃ es clock, w.heap[b]? = some (.map es clock) := by
  obtain ⟨D, ⟨es, clock, hb, _⟩, _⟩ := h
  exact ⟨es, clock, hb⟩

theorem has_iff {D : DataW Value} {v : Option Value} {k : Lit} (h : D.atKey k .nil = rd v) (hD : ∀ _ : Unit, Maps.has D k = true → D.atKey k .nil ≠ .nil) : Maps.has D k = v.isSome := by
  cases v with
  | none =>
    cases hh : Maps.has D k with
    | false => rfl
    | true => exact absurd h (hD () hh)
  | some v =>
    cases hh : Maps.has D k with
    | false => rw [Maps.atKey_of_not_has hh] at h; cases h
    | true => rfl

/-- Where a key is there its element reads as a value. -/
theorem held_of_has {m : Nat} {D : DataW Value} (h : w.ownsMap Ybaz.prog 9 valElem b m D) (s : ByteArray) (hs : s.size ≤ maxLen) (hh : Maps.has D (kl s) = true) : D.atKey (kl s) .nil ≠ .nil := by
  obtain ⟨es, clock, hb, F, _, rfl⟩ := h
  rcases Maps.fit_look (w := w) (e := 56) false law Ybaz.underlying53 (z := .pointer none) (by kernel_rfl) hb F (WideMaps.keyOf_string_mk Ybaz.underlying9 hs) with ⟨_, _, hat⟩ | ⟨e0, y, _, _, _, hRv, hat, _⟩
  · rw [Maps.has_false_of_atKey hat] at hh
    cases hh
  · rw [hat .nil]
    simp only [valElem, Option.some.injEq] at hRv
    rw [← hRv]
    simp

theorem MapAt.has (h : MapAt w b f n) : ∃ D, w.ownsMap Ybaz.prog 9 valElem b n D ∧ Maps.size D = n ∧ (∀ s : ByteArray, s.size ≤ maxLen → D.atKey (kl s) .nil = rd (f s)) ∧ ∀ s : ByteArray, s.size ≤ maxLen → Maps.has D (kl s) = (f s).isSome := by
  obtain ⟨D, h0, h1, h2⟩ := h
  exact ⟨D, h0, h1, h2, fun s hs => has_iff (h2 s hs) (fun _ hh => held_of_has h0 s hs hh)⟩

/-- 'm[s]'. -/
theorem MapAt.lookup (h : MapAt w b f n) {t e : TypeId} (ht : Ybaz.prog.underlying t = some (.map 9 e)) {z : Value} (hz : (zeroValue e).run Ybaz.prog w = .ok z w) (s : ByteArray) (hs : s.size ≤ maxLen) :
    (Instr.lookup t (.map (some b)) (.string s) false).run Ybaz.prog w = .ok ((f s).getD z) w := by
  obtain ⟨D, h0, h1, h2, h3⟩ := h.has
  obtain ⟨v, ps, hrun, hv⟩ := h0.lookup law ht hz (zd := .held z) (zp := []) rfl (WideMaps.keyOf_string_mk Ybaz.underlying9 hs)
  rw [hrun]
  simp only [valElem, Option.some.injEq, Prod.mk.injEq] at hv
  have h4 := h3 s hs
  have h5 := h2 s hs
  cases hf : f s with
  | none =>
    rw [hf] at h4
    rw [Maps.atKey_of_not_has h4] at hv
    obtain ⟨hv, _⟩ := hv
    cases hv
    rfl
  | some u =>
    rw [hf] at h5
    have h6 : D.atKey (kl s) (.held z) = .held u := by
      obtain ⟨es, clock, hb, F, _, rfl⟩ := h0
      rcases Maps.fit_look (w := w) (e := e) false law ht hz hb F (WideMaps.keyOf_string_mk Ybaz.underlying9 hs) with ⟨_, _, hat⟩ | ⟨e0, y, _, _, _, hRv, hat, _⟩
      · rw [hat] at h5; cases h5
      · rw [hat] at h5; rw [hat]; exact h5
    rw [h6] at hv
    obtain ⟨hv, _⟩ := hv
    cases hv
    rfl

/-- 'm[s] = v'. -/
theorem MapAt.store (h : MapAt w b f n) {t e : TypeId} (ht : Ybaz.prog.underlying t = some (.map 9 e)) (hn : n < maxLen) (s : ByteArray) (hs : s.size ≤ maxLen) (v : Value) :
    ∃ w', (Instr.mapUpdate t (.map (some b)) (.string s) v).run Ybaz.prog w = .ok () w' ∧ MapAt w' b (fun x => if x = s then some v else f x) (if (f s).isSome then n else n + 1) ∧ w.grownBy w' (some b) ∧ w'.heap.size = w.heap.size := by
  obtain ⟨D, h0, h1, h2, h3⟩ := h.has
  obtain ⟨w', hrun, hown, hturn⟩ := h0.store law ht hn (WideMaps.keyOf_string_mk Ybaz.underlying9 hs) (val := v) (d := .held v) (ps := []) rfl
  have hsz := Maps.size_put (k := kl s) (h0.tidy law) (.held v)
  rw [h3 s hs, h1] at hsz
  refine ⟨w', hrun, ⟨D.put (kl s) (.held v), ?_, hsz, fun x hx => ?_⟩, hturn.grown, ?_⟩
  · have := tight hown
    rw [hsz] at this
    exact this
  · by_cases e : x = s
    · subst e
      rw [Maps.atKey_put_same h0.isMap (by trivial)]
      simp [rd]
    · rw [Maps.atKey_put_other (fun h => e (kl_inj h)), h2 x hx]
      simp [e]
  · obtain ⟨es, clock, es', clock', hb, rfl⟩ := hturn
    simp [ChangeMaps.setBlock]

/-- 'delete(m, s)'. -/
theorem MapAt.delete (h : MapAt w b f n) {t e : TypeId} (ht : Ybaz.prog.underlying t = some (.map 9 e)) (s : ByteArray) (hs : s.size ≤ maxLen) (ty : TypeId) :
    ∃ w', (Builtin.delete_ #[t, 9] ty #[.map (some b), .string s]).run Ybaz.prog w = .ok (.tuple #[]) w' ∧ MapAt w' b (fun x => if x = s then none else f x) (if (f s).isSome then n - 1 else n) ∧ w.grownBy w' (some b) ∧ w'.heap.size = w.heap.size := by
  obtain ⟨D, h0, h1, h2, h3⟩ := h.has
  obtain ⟨w', hrun, hown, hturn⟩ := h0.drop law ht (WideMaps.keyOf_string_mk Ybaz.underlying9 hs) ty
  have hsz := Maps.size_del (k := kl s) (h0.tidy law)
  rw [h3 s hs, h1] at hsz
  have hsz' : Maps.size (D.del (kl s)) = if (f s).isSome then n - 1 else n := by
    cases hq : (f s).isSome with
    | true => rw [hq] at hsz; simp only [if_true] at hsz ⊢; omega
    | false => rw [hq] at hsz; simpa using hsz
  refine ⟨w', hrun, ⟨D.del (kl s), ?_, hsz', fun x hx => ?_⟩, hturn.grown, ?_⟩
  · have := tight hown
    rw [hsz'] at this
    exact this
  · by_cases e : x = s
    · subst e
      rw [Maps.atKey_del_same]
      simp [rd]
    · rw [Maps.atKey_del_other (fun h => e (kl_inj h)), h2 x hx]
      simp [e]
  · obtain ⟨es, clock, es', clock', hb, rfl⟩ := hturn
    simp [ChangeMaps.setBlock]

/-- 'len(m)'. -/
theorem MapAt.len (h : MapAt w b f n) {t e : TypeId} (ht : Ybaz.prog.underlying t = some (.map 9 e)) (ty : TypeId) : (Builtin.len_ #[t] ty #[.map (some b)]).run Ybaz.prog w = .ok (.int .i64 n) w := by
  obtain ⟨D, h0, h1, _⟩ := h
  have := h0.len ht ty
  rw [h1] at this
  exact this
end Go.Proofs.YbulkclxkGreat.maps
