import Derived.Test.YbulkclxkGreatLawT
namespace Go.Proofs.YbulkclxkGreat.rep
open Go.ChangeShapes Go.WideShapes Go.ChangeAt Go.RowKit
open lab ring maps sup put hold order del srt read
set_option linter.unusedVariables false

theorem cnt_zero_of {o : Nat → Int} {E : List (Nat × Nat)} (h : Ow o E) (hb : ∀ q ∈ E, q.2 < 24) (hn : ∀ a, 0 < a → ∀ x, (a, x) ∉ E) : cntP o 24 = 0 := by
  unfold cntP
  rw [List.filter_eq_nil_iff.2]; rfl
  intro a _ hp
  obtain ⟨h0, x, hx⟩ := (pres_iff h hb a).1 hp
  exact hn a h0 x hx

theorem tick_sv0 {W w : World} {sb tb ow : Nat} {topic : ByteArray} {start : Int} {E : List (Nat × Nat)} {o : Nat → Int} (ht : topic.size ≤ maxLen) (h : Sv W w sb tb ow topic start E) (hO : Ow o E) (hb : ∀ q ∈ E, q.2 < 24) (hz : cntP o 24 = 0) :
    Calls Ybaz.prog 10 #[.pointer (some ⟨sb, 0, none⟩), .pointer none] w fun e w' => ∃ ao c, e = .returned (.slice ao 0 c) ∧ Gone W w' sb tb start := by
  rcases h with ⟨rfl, h⟩ | ⟨rb, kb, B, g, v, f, h, hbk, how⟩
  · refine (tick_none h).mono ?_
    rintro e w' ⟨rfl, hG, _⟩
    exact ⟨none, 0, rfl, hG⟩
  · refine (tick_bk ht h hbk).mono ?_
    rintro e w' ⟨ov, rfl, hT, _⟩
    rcases hT with ⟨ao, c, rfl, hG, _⟩ | ⟨go, co, O, E', g', v', f', t0, t1, rfl, hpos, hst, hbk', hr, _⟩
    · exact ⟨ao, c, rfl, hG⟩
    · exfalso
      have := cnt_some hO hb hr (fun q hq => (hbk'.con.bound q hq).1)
      omega

theorem tick_sv1 {W w0 w : World} {sb tb ow pb : Nat} {topic : ByteArray} {start : Int} {E : List (Nat × Nat)} {o : Nat → Int} (ht : topic.size ≤ maxLen) (h0 : Sv W w0 sb tb ow topic start E) (hbw : Below w0.heap.size w0 w) (hO : Ow o E) (hb : ∀ q ∈ E, q.2 < 24) (hz : ¬ cntP o 24 = 0) (hp0 : w0.heap.size ≤ pb) (hp1 : pb < w.heap.size) :
    Calls Ybaz.prog 10 #[.pointer (some ⟨sb, 0, none⟩), .pointer none] w fun e w' => ∃ go co O E' g' v' f' rb kb B t0 t1, e = .returned (.slice (some ⟨go, 0, none⟩) (O.length + 1) co) ∧ 0 < E'.length ∧ St W w' sb tb rb kb B topic start (Lf E') (cnt g') (Gf g') t0 t1 ∧ Bk w' B rb kb E' g' t0 t1 start v' f' ∧ Rep E E' ∧
      w'.ownsRow w.heap.size 39 2 (.slice (some ⟨go, 0, none⟩) (O.length + 1) co) (O.length + 1) (envs E' topic start O ++ env E' topic start 0 true) ∧ (∀ i ∈ O, i < E'.length) ∧ O.length ≤ 1000 ∧ E'.length = cntP o 24 ∧ w'.heap[pb]? = w.heap[pb]? := by
  have h := h0.later hbw
  rcases h0 with ⟨rfl, h0⟩ | ⟨rb, kb, B, g, v, f, h0, hbk0, how0⟩
  · exfalso
    exact hz (cnt_zero_of hO hb (by simp))
  · have hz0 := h0.szW
    refine (tick_bk ht (h0.later hbw) (hbk0.later hbw)).mono ?_
    rintro e w' ⟨ov, rfl, hT, hfar⟩
    rcases hT with ⟨ao, c, rfl, hG, hn⟩ | ⟨go, co, O, E', g', v', f', t0, t1, rfl, hpos, hst, hbk', hr, hrow, hOi, hOl⟩
    · exfalso
      exact hz (cnt_zero_of hO hb hn)
    · refine ⟨go, co, O, E', g', v', f', rb, kb, B, t0, t1, rfl, hpos, hst, hbk', hr, hrow, hOi, hOl, cnt_some hO hb hr (fun q hq => (hbk'.con.bound q hq).1), hfar pb hp1 (by omega) (by omega) (by omega) (fun e => ?_)⟩
      have := (Ros.own_lt hbk0.ros e).2
      omega
end Go.Proofs.YbulkclxkGreat.rep
