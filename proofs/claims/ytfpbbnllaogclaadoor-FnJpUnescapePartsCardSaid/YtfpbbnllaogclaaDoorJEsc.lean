/- What the reference reads as an escape: plain definitions, and that the reference's functions compute them. -/
import Derived.Test.YtfpbbnllaogclaaDoorJByt
import Derived.Test.YtfpbbnllaogclaaDoorPJx3
import Derived.Test.YtfpbbnllaogclaaDoorPJx8
import Derived.Test.YtfpbbnllaogclaaDoorPJx9
namespace Go.Proofs.YtfpbbnllaogclaaDoor.J
open Go.RowKit Go.Proofs.YtfpbbnllaogclaaDoor.PJ Go.Proofs.YtfpbbnllaogclaaDoorW.PrintWords Go.Proofs.YtfpbbnllaogclaaDoorW.PrintLast
set_option linter.unusedSimpArgs false
set_option linter.unusedVariables false

def hex (c : Int) : Bool := (48 ≤ c && c ≤ 57) || (97 ≤ c && c ≤ 102) || (65 ≤ c && c ≤ 70)
theorem hex_iff (c : Int) : hex c = true ↔ (48 ≤ c ∧ c ≤ 57) ∨ (97 ≤ c ∧ c ≤ 102) ∨ (65 ≤ c ∧ c ≤ 70) := by
  simp [hex, or_assoc]
theorem hex_not (c : Int) : hex c = false ↔ ¬ ((48 ≤ c ∧ c ≤ 57) ∨ (97 ≤ c ∧ c ≤ 102) ∨ (65 ≤ c ∧ c ≤ 70)) := by
  rw [← hex_iff]; simp
def short (c : Int) : Bool := c == 34 || c == 92 || c == 47 || c == 98 || c == 102 || c == 110 || c == 114 || c == 116
theorem short_iff (c : Int) : short c = true ↔ c = 34 ∨ c = 92 ∨ c = 47 ∨ c = 98 ∨ c = 102 ∨ c = 110 ∨ c = 114 ∨ c = 116 := by
  simp [short, or_assoc]
theorem short_not (c : Int) : short c = false ↔ ¬ (c = 34 ∨ c = 92 ∨ c = 47 ∨ c = 98 ∨ c = 102 ∨ c = 110 ∨ c = 114 ∨ c = 116) := by
  rw [← short_iff]; simp
/-- n hexadecimal digits stand from i on. -/
def hexes (s : ByteArray) : Nat → Int → Bool
  | 0, _ => true
  | n + 1, i => hex (bt s i) && hexes s n (i + 1)
/-- Where an escape ends whose first byte behind the backslash stands at i. -/
def escEnd (s : ByteArray) (i : Int) : Option Int :=
  if short (bt s i) then some (i + 1) else if bt s i = 117 then if hexes s 4 (i + 1) then some (i + 5) else none else none
theorem hexes_in {s : ByteArray} : ∀ {n : Nat} {i : Int}, hexes s (n + 1) i = true → i + n < s.size
  | 0, i, h => by
    simp only [hexes, Bool.and_true, hex_iff] at h
    have := bt_in (s := s) (i := i) (by omega)
    omega
  | n + 1, i, h => by
    rw [hexes, Bool.and_eq_true] at h
    have := hexes_in (n := n) h.2
    omega
theorem escEnd_le {s : ByteArray} {i m : Int} (h : escEnd s i = some m) : i < m ∧ m ≤ s.size ∧ m ≤ i + 5 := by
  unfold escEnd at h
  split at h
  · rename_i hs
    rw [short_iff] at hs
    have := bt_in (s := s) (i := i) (by omega)
    simp only [Option.some.injEq] at h
    omega
  · split at h
    · split at h
      · rename_i hx
        have := hexes_in hx
        simp only [Option.some.injEq] at h
        omega
      · cases h
    · cases h
theorem here_ev {s : ByteArray} {i : Int} (h0 : 0 ≤ i) : spec_reader_here.f s i = some (bt s i, s, i) := by
  unfold spec_reader_here.f
  split
  · first | rfl | rw [if_pos h0]
  · rw [bt_out s (by omega)]
theorem hexDigit_ev (c : Int) (h0 : 0 ≤ c) (h1 : c ≤ 255) : ∃ v, Ev (fun k => spec_hexDigit.f k c) (v, hex c) := by
  by_cases a : 48 ≤ c ∧ c ≤ 57
  · refine ⟨(c - 48) % 256, ev_one fun k => ?_⟩
    rw [(hex_iff c).2 (.inl a)]
    simp (disch := omega) only [spec_hexDigit.f, spec_hexDigit.j0, if_pos, decide_eq_true a.2, if_true]
  · have st : ∀ k, spec_hexDigit.f (k + 1) c = if 97 ≤ c then spec_hexDigit.j1 k c (decide (c ≤ 102)) else spec_hexDigit.j1 k c false := fun k => by
      unfold spec_hexDigit.f
      split
      · rw [decide_eq_false (by omega)]; simp only [spec_hexDigit.j0, Bool.false_eq_true, if_false]
      · simp only [spec_hexDigit.j0, Bool.false_eq_true, if_false]
    by_cases b : 97 ≤ c ∧ c ≤ 102
    · refine ⟨((c - 97) % 256) + 10, Ev.step st (ev_one fun k => ?_)⟩
      rw [(hex_iff c).2 (.inr (.inl b))]
      simp (disch := omega) only [spec_hexDigit.j1, if_pos, decide_eq_true b.2, if_true]
    · have st2 : ∀ k, (if 97 ≤ c then spec_hexDigit.j1 (k + 1) c (decide (c ≤ 102)) else spec_hexDigit.j1 (k + 1) c false) = if 65 ≤ c then (if c ≤ 70 then some (((c - 65) % 256) + 10, true) else some (0, false)) else some (0, false) := fun k => by
        split
        · rw [decide_eq_false (by omega)]; simp only [spec_hexDigit.j1, Bool.false_eq_true, if_false]
        · simp only [spec_hexDigit.j1, Bool.false_eq_true, if_false]
      by_cases d : 65 ≤ c ∧ c ≤ 70
      · refine ⟨((c - 65) % 256) + 10, Ev.step st (ev_one fun k => ?_)⟩
        rw [(hex_iff c).2 (.inr (.inr d)), st2, if_pos d.1, if_pos d.2]
      · refine ⟨0, Ev.step st (ev_one fun k => ?_)⟩
        rw [(hex_not c).2 (by omega), st2]
        split
        · rw [if_neg (by omega)]
        · rfl
theorem hexes_ev {s : ByteArray} (hn : s.size ≤ 140737488351232) : ∀ (n : Nat) (i x : Int), 0 ≤ i → i ≤ s.size → 0 ≤ x → x + n = 4 →
    (hexes s n i = true → Ev (fun k => spec_reader_escape.l0 k x s i) (true, s, i + n)) ∧ (hexes s n i = false → ∃ p, Ev (fun k => spec_reader_escape.l0 k x s i) (false, s, p))
  | 0, i, x, h0, h1, hx0, hx => by
    refine ⟨fun _ => ev_one fun k => ?_, fun h => by simp [hexes] at h⟩
    simp (disch := omega) only [spec_reader_escape.l0, if_neg]
    simp
  | n + 1, i, x, h0, h1, hx0, hx => by
    obtain ⟨v, hv⟩ := hexDigit_ev (bt s i) (bt_lo s i) (bt_hi s i)
    have st : ∀ k, spec_reader_escape.l0 (k + 1) x s i = (spec_hexDigit.f k (bt s i)).bind fun b => if b.2 = true then spec_reader_escape.l0 k (wrap64 (x + 1)) s (wrap64 (i + 1)) else some (false, s, i) := fun k => by
      simp (disch := omega) only [spec_reader_escape.l0, if_pos, here_ev h0, Option.bind_some]
    cases hc : hex (bt s i) with
    | true =>
      rw [hc] at hv
      have hi : i < s.size := bt_in (by rw [hex_iff] at hc; omega)
      have ih := hexes_ev hn n (i + 1) (x + 1) (by omega) (by omega) (by omega) (by omega)
      have hw : wrap64 (x + 1) = x + 1 := wr (by omega) (by omega)
      have hw2 : wrap64 (i + 1) = i + 1 := wr (by omega) (by omega)
      have go : ∀ r, Ev (fun k => spec_reader_escape.l0 k (x + 1) s (i + 1)) r → Ev (fun k => spec_reader_escape.l0 k x s i) r := fun r h => Ev.step st (Ev.bind (f := fun k b => if b.2 = true then spec_reader_escape.l0 k (wrap64 (x + 1)) s (wrap64 (i + 1)) else some (false, s, i)) hv (by simpa only [if_true, hw, hw2] using h))
      rw [hexes, hc, Bool.true_and]
      refine ⟨fun h => ?_, fun h => ?_⟩
      · rw [show i + ((n + 1 : Nat) : Int) = i + 1 + n from by omega]
        exact go _ (ih.1 h)
      · obtain ⟨p, hp⟩ := ih.2 h
        exact ⟨p, go _ hp⟩
    | false =>
      rw [hc] at hv
      rw [hexes, hc, Bool.false_and]
      exact ⟨(fun h => by cases h), fun _ => ⟨i, Ev.step st (Ev.bind (f := fun k b => if b.2 = true then spec_reader_escape.l0 k (wrap64 (x + 1)) s (wrap64 (i + 1)) else some (false, s, i)) hv (ev_const fun _ => rfl))⟩⟩
theorem escape_ev {s : ByteArray} (hn : s.size ≤ 140737488351232) {i : Int} (h0 : 0 ≤ i) (h1 : i ≤ s.size) :
    (∀ m, escEnd s i = some m → Ev (fun k => spec_reader_escape.f k s i) (true, s, m)) ∧ (escEnd s i = none → ∃ p, Ev (fun k => spec_reader_escape.f k s i) (false, s, p)) := by
  have hw : wrap64 (i + 1) = i + 1 := wr (by omega) (by omega)
  have hf : ∀ k, spec_reader_escape.f k s i = spec_reader_escape.j0 k (bt s i) (short (bt s i)) s i := fun k => by
    unfold spec_reader_escape.f
    rw [here_ev h0]
    simp only [Option.bind_some]
    by_cases c1 : bt s i = 34
    · rw [if_pos c1, c1]; rfl
    rw [if_neg c1]
    by_cases c2 : bt s i = 92
    · rw [if_pos c2, c2]; rfl
    rw [if_neg c2]
    by_cases c3 : bt s i = 47
    · rw [if_pos c3, c3]; rfl
    rw [if_neg c3]
    by_cases c4 : bt s i = 98
    · rw [if_pos c4, c4]; rfl
    rw [if_neg c4]
    by_cases c5 : bt s i = 102
    · rw [if_pos c5, c5]; rfl
    rw [if_neg c5]
    by_cases c6 : bt s i = 110
    · rw [if_pos c6, c6]; rfl
    rw [if_neg c6]
    by_cases c7 : bt s i = 114
    · rw [if_pos c7, c7]; rfl
    rw [if_neg c7]
    have : short (bt s i) = (bt s i == 116) := by
      unfold short
      rw [beq_eq_false_iff_ne.2 c1, beq_eq_false_iff_ne.2 c2, beq_eq_false_iff_ne.2 c3, beq_eq_false_iff_ne.2 c4, beq_eq_false_iff_ne.2 c5, beq_eq_false_iff_ne.2 c6, beq_eq_false_iff_ne.2 c7]
      rfl
    rw [this]
  cases hs : short (bt s i) with
  | true =>
    have st : Ev (fun k => spec_reader_escape.f k s i) (true, s, i + 1) := Ev.congr hf (ev_one fun k => by simp only [spec_reader_escape.j0, hs, if_true, hw])
    refine ⟨fun m h => ?_, fun h => ?_⟩
    · simp only [escEnd, hs, if_true, Option.some.injEq] at h
      subst h
      exact st
    · simp only [escEnd, hs, if_true, reduceCtorEq] at h
  | false =>
    by_cases hu : bt s i = 117
    · have hi : i < s.size := bt_in (by omega)
      have st : ∀ k, spec_reader_escape.j0 (k + 1) (bt s i) (short (bt s i)) s i = spec_reader_escape.l0 k 0 s (i + 1) := fun k => by simp only [spec_reader_escape.j0, hu, show short 117 = false from rfl, hw, if_true, Bool.false_eq_true, if_false]
      have g := hexes_ev hn 4 (i + 1) 0 (by omega) (by omega) (by omega) (by omega)
      have hs7 : short 117 = false := rfl
      refine ⟨fun m h => ?_, fun h => ?_⟩
      · simp only [escEnd, hu, hs7, if_true, Bool.false_eq_true, if_false] at h
        cases hx : hexes s 4 (i + 1) with
        | true =>
          simp only [hx, if_true, Option.some.injEq] at h
          subst h
          have e := g.1 hx
          rw [show i + 1 + ((4 : Nat) : Int) = i + 5 from by omega] at e
          exact Ev.congr hf (Ev.step st e)
        | false => simp only [hx, Bool.false_eq_true, if_false, reduceCtorEq] at h
      · simp only [escEnd, hu, hs7, if_true, Bool.false_eq_true, if_false] at h
        cases hx : hexes s 4 (i + 1) with
        | true => simp only [hx, if_true, reduceCtorEq] at h
        | false =>
          obtain ⟨p, e⟩ := g.2 hx
          exact ⟨p, Ev.congr hf (Ev.step st e)⟩
    · refine ⟨fun m h => ?_, fun _ => ⟨i, Ev.congr hf (ev_one fun k => by simp only [spec_reader_escape.j0, hs, hu, Bool.false_eq_true, if_false])⟩⟩
      simp only [escEnd, hs, hu, Bool.false_eq_true, if_false, reduceCtorEq] at h
end Go.Proofs.YtfpbbnllaogclaaDoor.J
