/- The reference's reader computes the plain definitions of JVal. -/
import Derived.Test.YtdndddembndnhaaJVal
import Derived.Test.YtdndddembndnhaaPAx1
import Derived.Test.YtdndddembndnhaaPAx10
import Derived.Test.YtdndddembndnhaaPAx2
import Derived.Test.YtdndddembndnhaaPAx7
import Derived.Test.YtdndddembndnhaaPAx8
import Derived.Test.YtdndddembndnhaaPAx9
namespace Go.Proofs.Ytdndddembndnhaa.J
open Go.RowKit Go.Proofs.Ytdndddembndnhaa.PA Go.Proofs.YtdndddembndnhaaW.PrintWords Go.Proofs.YtdndddembndnhaaW.PrintLast
attribute [local irreducible] bt
set_option linter.unusedSimpArgs false
set_option linter.unusedVariables false
set_option linter.unusedSectionVars false

theorem blank_ev (c : Int) : spec_Blank.f c = some (blank c) := by
  unfold spec_Blank.f blank
  by_cases c1 : c = 32
  · rw [if_pos c1, c1]; rfl
  rw [if_neg c1, beq_eq_false_iff_ne.2 c1]
  by_cases c2 : c = 9
  · rw [if_pos c2, c2]; rfl
  rw [if_neg c2, beq_eq_false_iff_ne.2 c2]
  by_cases c3 : c = 10
  · rw [if_pos c3, c3]; rfl
  rw [if_neg c3, beq_eq_false_iff_ne.2 c3]
  simp
section
variable {s : ByteArray} (hn : s.size ≤ 140737488351232)
include hn
theorem blanks_l0 {i : Int} (h0 : 0 ≤ i) (h1 : i ≤ s.size) : Ev (fun k => spec_reader_blanks.l0 k s i) (s, sk s i) := by
  refine stop_ind (P := fun i => 0 ≤ i → i ≤ s.size → Ev (fun k => spec_reader_blanks.l0 k s i) (s, sk s i)) blank0 s (fun i h h0 h1 => ?_) (fun i hlt h ih h0 h1 => ?_) i h0 h1
  · have e : sk s i = i := stop_here blank0 s h
    rw [e]
    refine ev_one fun k => ?_
    by_cases hi : i < s.size
    · simp only [spec_reader_blanks.l0, if_pos hi, if_pos h0, blank_ev, Option.bind_some, h, Bool.false_eq_true, if_false]
    · simp only [spec_reader_blanks.l0, if_neg hi]
  · have e : sk s i = sk s (i + 1) := stop_step blank0 s h
    have hw : wrap64 (i + 1) = i + 1 := wr (by omega) (by omega)
    rw [e]
    refine Ev.step (fun k => ?_) (ih (by omega) (by omega))
    simp only [spec_reader_blanks.l0, if_pos hlt, if_pos h0, blank_ev, Option.bind_some, h, if_true, hw]
theorem blanks_f {i : Int} (h0 : 0 ≤ i) (h1 : i ≤ s.size) : Ev (fun k => spec_reader_blanks.f k s i) (s, sk s i) := blanks_l0 hn h0 h1
theorem take_ev {i c : Int} (h0 : 0 ≤ i) (h1 : i ≤ s.size) (hc : c ≠ 0) : spec_reader_take.f s i c = some (bt s i == c, s, if bt s i = c then i + 1 else i) := by
  unfold spec_reader_take.f
  by_cases hi : i < s.size
  · have hw : wrap64 (i + 1) = i + 1 := wr (by omega) (by omega)
    rw [if_pos hi, if_pos h0]
    by_cases e : bt s i = c
    · rw [if_pos e, if_pos e, hw, beq_iff_eq.2 e]
    · rw [if_neg e, if_neg e, beq_eq_false_iff_ne.2 e]
  · have e : ¬ bt s i = c := by rw [bt_out s (by omega)]; exact fun e => hc e.symm
    rw [if_neg hi, if_neg e, beq_eq_false_iff_ne.2 e]
theorem digits_l0 (b : Int) {i : Int} (h0 : 0 ≤ i) (h1 : i ≤ s.size) : Ev (fun k => spec_reader_digits.l0 k b (bt s i) s i) (decide (de s i > b), s, de s i) := by
  refine stop_ind (P := fun i => 0 ≤ i → i ≤ s.size → Ev (fun k => spec_reader_digits.l0 k b (bt s i) s i) (decide (de s i > b), s, de s i)) dig0 s (fun i h h0 h1 => ?_) (fun i hlt h ih h0 h1 => ?_) i h0 h1
  · have e : de s i = i := stop_here dig0 s h
    rw [e]
    refine ev_one fun k => ?_
    rw [dig_not] at h
    by_cases c1 : 48 ≤ bt s i
    · simp only [spec_reader_digits.l0, if_pos c1, if_neg (show ¬ bt s i ≤ 57 by omega)]
    · simp only [spec_reader_digits.l0, if_neg c1]
  · have e : de s i = de s (i + 1) := stop_step dig0 s h
    have hw : wrap64 (i + 1) = i + 1 := wr (by omega) (by omega)
    rw [dig_iff] at h
    rw [e]
    refine Ev.step (fun k => ?_) (ih (by omega) (by omega))
    simp only [spec_reader_digits.l0, if_pos h.1, if_pos h.2, hw, here_ev (show 0 ≤ i + 1 by omega), Option.bind_some]
theorem digits_f {i : Int} (h0 : 0 ≤ i) (h1 : i ≤ s.size) : Ev (fun k => spec_reader_digits.f k s i) (decide (de s i > i), s, de s i) := by
  unfold spec_reader_digits.f
  simp only [here_ev h0, Option.bind_some]
  exact digits_l0 hn i h0 h1
theorem pow_ev {i : Int} (h0 : 0 ≤ i) (h1 : i ≤ s.size) : (∀ j, numPow s i = some j → Ev (fun k => spec_reader_digits.f k s i) (true, s, j)) ∧ (numPow s i = none → Ev (fun k => spec_reader_digits.f k s i) (false, s, de s i)) := by
  have h := digits_f hn h0 h1
  unfold numPow
  by_cases c : i < de s i
  · rw [decide_eq_true c] at h
    exact ⟨(fun j hj => by rw [if_pos c, Option.some.injEq] at hj; rw [← hj]; exact h), (fun hj => by rw [if_pos c] at hj; cases hj)⟩
  · rw [decide_eq_false c] at h
    exact ⟨(fun j hj => by rw [if_neg c] at hj; cases hj), fun _ => h⟩
theorem j2_ev {i : Int} (h0 : 0 ≤ i) (h1 : i ≤ s.size) (o : Option Int) (ho : o = if bt s i = 43 ∨ bt s i = 45 then numPow s (i + 1) else numPow s i) :
    (∀ j, o = some j → Ev (fun k => spec_reader_number.j2 k true s i) (true, s, j)) ∧ (o = none → ∃ p, Ev (fun k => spec_reader_number.j2 k true s i) (false, s, p)) := by
  have hs : bt s i = 43 ∨ bt s i = 45 → i + 1 ≤ s.size := fun h => by have := bt_in (s := s) (i := i) (by omega); omega
  -- the digits at p
  have fin : ∀ p : Int, 0 ≤ p → p ≤ s.size → (∀ k, spec_reader_number.j2 (k + 1) true s i = (spec_reader_digits.f k s p).bind fun b => some (b.1, b.2.1, b.2.2)) → o = numPow s p →
      (∀ j, o = some j → Ev (fun k => spec_reader_number.j2 k true s i) (true, s, j)) ∧ (o = none → ∃ p, Ev (fun k => spec_reader_number.j2 k true s i) (false, s, p)) := by
    intro p hp hp' st e
    have g := pow_ev hn hp hp'
    rw [e]
    exact ⟨fun j hj => Ev.step st (Ev.bind (f := fun _ b => some (b.1, b.2.1, b.2.2)) (g.1 j hj) (Ev.now _)), fun hj => ⟨_, Ev.step st (Ev.bind (f := fun _ b => some (b.1, b.2.1, b.2.2)) (g.2 hj) (Ev.now _))⟩⟩
  by_cases c1 : bt s i = 43
  · refine fin (i + 1) (by omega) (hs (.inl c1)) (fun k => ?_) (by rw [ho, if_pos (.inl c1)])
    simp only [spec_reader_number.j2, if_true, take_ev hn h0 h1 (show (43 : Int) ≠ 0 by decide), Option.bind_some, beq_iff_eq.2 c1, if_pos c1]
  by_cases c2 : bt s i = 45
  · refine fin (i + 1) (by omega) (hs (.inr c2)) (fun k => ?_) (by rw [ho, if_pos (.inr c2)])
    simp only [spec_reader_number.j2, if_true, take_ev hn h0 h1 (show (43 : Int) ≠ 0 by decide), take_ev hn h0 h1 (show (45 : Int) ≠ 0 by decide), Option.bind_some, beq_eq_false_iff_ne.2 c1, if_neg c1, if_pos c2, Bool.false_eq_true, if_false]
  · refine fin i h0 h1 (fun k => ?_) (by rw [ho, if_neg (by omega)])
    simp only [spec_reader_number.j2, if_true, take_ev hn h0 h1 (show (43 : Int) ≠ 0 by decide), take_ev hn h0 h1 (show (45 : Int) ≠ 0 by decide), Option.bind_some, beq_eq_false_iff_ne.2 c1, if_neg c1, if_neg c2, Bool.false_eq_true, if_false]
theorem j1_ev {i : Int} (h0 : 0 ≤ i) (h1 : i ≤ s.size) :
    (∀ j, numExp s i = some j → Ev (fun k => spec_reader_number.j1 k false s i) (true, s, j)) ∧ (numExp s i = none → ∃ p, Ev (fun k => spec_reader_number.j1 k false s i) (false, s, p)) := by
  by_cases c : bt s i = 101 ∨ bt s i = 69
  · have hi : i + 1 ≤ s.size := by have := bt_in (s := s) (i := i) (by omega); omega
    have g := j2_ev hn (i := i + 1) (by omega) hi (numExp s i) (by rw [numExp, if_pos c, show i + 1 + 1 = i + 2 from by omega])
    have st : ∀ k, spec_reader_number.j1 (k + 1) false s i = spec_reader_number.j2 k true s (i + 1) := fun k => by
      by_cases c1 : bt s i = 101
      · simp only [spec_reader_number.j1, Bool.false_eq_true, if_false, take_ev hn h0 h1 (show (101 : Int) ≠ 0 by decide), Option.bind_some, beq_iff_eq.2 c1, if_pos c1, if_true]
      · have c2 : bt s i = 69 := by omega
        simp only [spec_reader_number.j1, Bool.false_eq_true, if_false, take_ev hn h0 h1 (show (101 : Int) ≠ 0 by decide), take_ev hn h0 h1 (show (69 : Int) ≠ 0 by decide), Option.bind_some, beq_eq_false_iff_ne.2 c1, if_neg c1, beq_iff_eq.2 c2, if_pos c2]
    exact ⟨fun j hj => Ev.step st (g.1 j hj), fun hj => let ⟨p, hp⟩ := g.2 hj; ⟨p, Ev.step st hp⟩⟩
  · have c1 : ¬ bt s i = 101 := fun h => c (.inl h)
    have c2 : ¬ bt s i = 69 := fun h => c (.inr h)
    have st : ∀ k, spec_reader_number.j1 (k + 1) false s i = spec_reader_number.j2 k false s i := fun k => by
      simp only [spec_reader_number.j1, Bool.false_eq_true, if_false, take_ev hn h0 h1 (show (101 : Int) ≠ 0 by decide), take_ev hn h0 h1 (show (69 : Int) ≠ 0 by decide), Option.bind_some, beq_eq_false_iff_ne.2 c1, if_neg c1, beq_eq_false_iff_ne.2 c2, if_neg c2]
    refine ⟨fun j hj => ?_, fun hj => ?_⟩
    · rw [numExp, if_neg c, Option.some.injEq] at hj
      subst hj
      exact Ev.step st (ev_one fun k => by simp only [spec_reader_number.j2, Bool.false_eq_true, if_false])
    · rw [numExp, if_neg c] at hj; cases hj
theorem j0_ev {i : Int} (h0 : 0 ≤ i) (h1 : i ≤ s.size) :
    (∀ j, (numFrac s i).bind (numExp s) = some j → Ev (fun k => spec_reader_number.j0 k false s i) (true, s, j)) ∧ ((numFrac s i).bind (numExp s) = none → ∃ p, Ev (fun k => spec_reader_number.j0 k false s i) (false, s, p)) := by
  by_cases c : bt s i = 46
  · have hi : i + 1 ≤ s.size := by have := bt_in (s := s) (i := i) (by omega); omega
    have hd := digits_f hn (i := i + 1) (by omega) hi
    have hle := stop_le dig0 s hi
    have hge := stop_ge dig0 s (i + 1)
    have st : ∀ k, spec_reader_number.j0 (k + 1) false s i = (spec_reader_digits.f k s (i + 1)).bind fun b => spec_reader_number.j1 k (!b.1) b.2.1 b.2.2 := fun k => by
      simp only [spec_reader_number.j0, Bool.false_eq_true, if_false, take_ev hn h0 h1 (show (46 : Int) ≠ 0 by decide), Option.bind_some, beq_iff_eq.2 c, if_pos c, if_true]
    by_cases c2 : i + 1 < de s (i + 1)
    · rw [decide_eq_true c2] at hd
      have e : numFrac s i = some (de s (i + 1)) := by rw [numFrac, if_pos c, if_pos c2]
      have g := j1_ev hn (i := de s (i + 1)) (by unfold de; omega) hle
      rw [e, Option.bind_some]
      exact ⟨fun j hj => Ev.step st (Ev.bind (f := fun k b => spec_reader_number.j1 k (!b.1) b.2.1 b.2.2) hd (by simpa only [Bool.not_true] using g.1 j hj)), fun hj => let ⟨p, hp⟩ := g.2 hj; ⟨p, Ev.step st (Ev.bind (f := fun k b => spec_reader_number.j1 k (!b.1) b.2.1 b.2.2) hd (by simpa only [Bool.not_true] using hp))⟩⟩
    · rw [decide_eq_false c2] at hd
      have e : numFrac s i = none := by rw [numFrac, if_pos c, if_neg c2]
      rw [e, Option.bind_none]
      refine ⟨(fun j hj => by cases hj), fun _ => ⟨de s (i + 1), Ev.step st (Ev.bind (f := fun k b => spec_reader_number.j1 k (!b.1) b.2.1 b.2.2) hd (ev_one fun k => ?_))⟩⟩
      simp only [spec_reader_number.j1, Bool.not_false, if_true]
  · have e : numFrac s i = some i := by rw [numFrac, if_neg c]
    have g := j1_ev hn h0 h1
    have st : ∀ k, spec_reader_number.j0 (k + 1) false s i = spec_reader_number.j1 k false s i := fun k => by
      simp only [spec_reader_number.j0, Bool.false_eq_true, if_false, take_ev hn h0 h1 (show (46 : Int) ≠ 0 by decide), Option.bind_some, beq_eq_false_iff_ne.2 c, if_neg c]
    rw [e, Option.bind_some]
    exact ⟨fun j hj => Ev.step st (g.1 j hj), fun hj => let ⟨p, hp⟩ := g.2 hj; ⟨p, Ev.step st hp⟩⟩
theorem number_ev {i : Int} (h0 : 0 ≤ i) (h1 : i ≤ s.size) :
    (∀ j, numEnd s i = some j → Ev (fun k => spec_reader_number.f k s i) (true, s, j)) ∧ (numEnd s i = none → ∃ p, Ev (fun k => spec_reader_number.f k s i) (false, s, p)) := by
  obtain ⟨a, ha⟩ : ∃ a, a = (if bt s i = 45 then i + 1 else i) := ⟨_, rfl⟩
  have hab : i ≤ a ∧ a ≤ s.size := by
    rw [ha]
    split
    · have := bt_in (s := s) (i := i) (by omega); omega
    · omega
  have st : ∀ k, spec_reader_number.f k s i = if bt s a = 48 then spec_reader_number.j0 k false s (a + 1) else (spec_reader_digits.f k s a).bind fun b => spec_reader_number.j0 k (!b.1) b.2.1 b.2.2 := fun k => by
    simp only [spec_reader_number.f, take_ev hn h0 h1 (show (45 : Int) ≠ 0 by decide), Option.bind_some, ← ha, take_ev hn (show 0 ≤ a by omega) hab.2 (show (48 : Int) ≠ 0 by decide)]
    by_cases c : bt s a = 48
    · simp only [beq_iff_eq.2 c, if_pos c, if_true]
    · simp only [beq_eq_false_iff_ne.2 c, if_neg c, Bool.false_eq_true, if_false]
  unfold numEnd
  rw [← ha]
  by_cases c : bt s a = 48
  · have hi : a + 1 ≤ s.size := by have := bt_in (s := s) (i := a) (by omega); omega
    have g := j0_ev hn (i := a + 1) (by omega) hi
    have e : numInt s a = some (a + 1) := by rw [numInt, if_pos c]
    rw [e, Option.bind_some]
    simp only [st, if_pos c]
    exact g
  · have hd := digits_f hn (i := a) (by omega) hab.2
    have hle := stop_le dig0 s hab.2
    have hge := stop_ge dig0 s a
    simp only [st, if_neg c]
    by_cases c2 : a < de s a
    · rw [decide_eq_true c2] at hd
      have e : numInt s a = some (de s a) := by rw [numInt, if_neg c, if_pos c2]
      have g := j0_ev hn (i := de s a) (by unfold de; omega) hle
      rw [e, Option.bind_some]
      exact ⟨fun j hj => Ev.bind (f := fun k b => spec_reader_number.j0 k (!b.1) b.2.1 b.2.2) hd (by simpa only [Bool.not_true] using g.1 j hj), fun hj => let ⟨p, hp⟩ := g.2 hj; ⟨p, Ev.bind (f := fun k b => spec_reader_number.j0 k (!b.1) b.2.1 b.2.2) hd (by simpa only [Bool.not_true] using hp)⟩⟩
    · rw [decide_eq_false c2] at hd
      have e : numInt s a = none := by rw [numInt, if_neg c, if_neg c2]
      rw [e, Option.bind_none]
      refine ⟨(fun j hj => by cases hj), fun _ => ⟨de s a, Ev.bind (f := fun k b => spec_reader_number.j0 k (!b.1) b.2.1 b.2.2) hd (ev_one fun k => ?_)⟩⟩
      simp only [spec_reader_number.j0, Bool.not_false, if_true]
theorem wordAt_list : ∀ (w : List Int) (i : Nat), (∀ c ∈ w, c ≠ 0) → (wordAt s i w = true ↔ ((bytesOf s).take (i + w.length)).drop i = w)
  | [], i, _ => by simp [wordAt]
  | c :: w, i, hw => by
    have hlen := bytesOf_length s
    rw [wordAt, Bool.and_eq_true, beq_iff_eq, show ((i : Int) + 1) = ((i + 1 : Nat) : Int) from by omega, wordAt_list w (i + 1) (fun x hx => hw x (by simp [hx]))]
    have e : i + (c :: w).length = (i + 1) + w.length := by simp; omega
    rw [e]
    by_cases hi : i < s.size
    · have hi' : i < (bytesOf s).length := by rw [hlen]; exact hi
      have h1 : bt s i = (bytesOf s)[i] := by rw [bt_nat, List.getD_eq_getElem?_getD, List.getElem?_eq_getElem hi']; rfl
      have h2 : ((bytesOf s).take (i + 1 + w.length)).drop i = (bytesOf s)[i] :: ((bytesOf s).take (i + 1 + w.length)).drop (i + 1) := by
        rw [List.drop_eq_getElem_cons (by rw [List.length_take]; omega), List.getElem_take]
      rw [h1, h2, List.cons.injEq]
    · have h1 : bt s i = 0 := bt_out s (by omega)
      have h2 : ((bytesOf s).take (i + 1 + w.length)).drop i = [] := List.drop_eq_nil_of_le (by rw [List.length_take, hlen]; omega)
      rw [h1, h2]
      constructor
      · intro h; exact absurd h.1.symm (hw c (by simp))
      · intro h; cases h
theorem word_ev {i : Int} (h0 : 0 ≤ i) (h1 : i ≤ s.size) (w : List Int) (hw : ∀ c ∈ w, c ≠ 0) (hB : IsB w) (hl : w.length ≤ 10) (W : ByteArray) (hW : bytesOf W = w) :
    spec_reader_word.f s i W = some (wordAt s i w, s, if wordAt s i w then i + w.length else i) := by
  have hWs : W.size = w.length := size_of hW
  have e1 : wrap64 ((s.size : Int) - i) = (s.size : Int) - i := wr (by omega) (by omega)
  have e2 : wrap64 (i + (W.size : Int)) = i + W.size := wr (by omega) (by omega)
  unfold spec_reader_word.f
  rw [e1, e2]
  by_cases c : (s.size : Int) - i < W.size
  · rw [if_pos c]
    have : wordAt s i w = false := by
      cases h : wordAt s i w with
      | false => rfl
      | true => have := wordAt_in hw h h1; omega
    rw [this]; rfl
  · rw [if_neg c, if_pos h0, if_pos (by omega), if_pos (by omega)]
    obtain ⟨n, rfl⟩ := Int.eq_ofNat_of_zero_le h0
    have e3 : ((n : Int) + (W.size : Int)).toNat = n + W.size := by omega
    rw [Int.toNat_natCast, e3]
    have key : (s.extract n (n + W.size)).toList = W.toList ↔ wordAt s n w = true := by
      rw [toList_iff, bytesOf_extract, hW, hWs, wordAt_list hn w n hw]
    by_cases h : wordAt s n w = true
    · rw [if_pos (key.2 h), h, if_pos rfl, hWs]
    · rw [if_neg (fun g => h (key.1 g)), if_neg h, Bool.eq_false_iff.2 h]
end
end Go.Proofs.Ytdndddembndnhaa.J
