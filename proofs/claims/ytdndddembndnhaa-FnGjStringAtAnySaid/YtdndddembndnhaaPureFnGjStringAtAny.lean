/- Behind a quotation mark the reading of a string ends at the first quotation mark that no backslash escapes, for every text and place; no condition beyond the law's own guards. -/
import Derived.Test.YtdndddembndnhaaPFnGjStringAtAnyx2
namespace Go.Proofs.Ytdndddembndnhaa.Pure
open Go.RowKit Go.Proofs.Ytdndddembndnhaa.PFnGjStringAtAny Go.Proofs.YtdndddembndnhaaW.PrintWords Go.Proofs.YtdndddembndnhaaW.PrintLast

set_option linter.unusedSectionVars false
set_option linter.unusedSimpArgs false
theorem wr {x : Int} (h0 : -9223372036854775808 ≤ x) (h1 : x ≤ 9223372036854775807) : wrap64 x = x := by
  unfold wrap64; omega

/-- The first quotation mark from place i on that no backslash escapes; st: does a backslash escape the byte at i. -/
def fq (s : ByteArray) : Nat → Int → Bool → Option Int
  | 0, _, _ => none
  | d + 1, i, true => fq s d (i + 1) false
  | d + 1, i, false => if bt s i = 92 then fq s d (i + 1) true else if bt s i = 34 then some i else fq s d (i + 1) false

theorem fq_range (s : ByteArray) : ∀ (d : Nat) (i : Int) (st : Bool) (j : Int), fq s d i st = some j → i ≤ j ∧ j < i + d
  | 0, _, _, _, h => by simp [fq] at h
  | d + 1, i, true, j, h => by have := fq_range s d _ _ _ h; omega
  | d + 1, i, false, j, h => by
    unfold fq at h
    split at h
    · have := fq_range s d _ _ _ h; omega
    · split at h
      · simp only [Option.some.injEq] at h; omega
      · have := fq_range s d _ _ _ h; omega

/-- How many backslashes stand ahead of place a + d, one behind the other, from a on. -/
def cb (s : ByteArray) (a : Int) : Nat → Nat
  | 0 => 0
  | d + 1 => if bt s (a + d) = 92 then cb s a d + 1 else 0

theorem cb_le (s : ByteArray) (a : Int) : ∀ d, cb s a d ≤ d
  | 0 => Nat.le_refl _
  | d + 1 => by
    have := cb_le s a d
    unfold cb
    split <;> omega

/-- The answer of the reading, but for the mark that tells of an escape. -/
def Good (s : ByteArray) (a : Int) (F : Option Int) (r : Int × ByteArray × Bool × Bool) : Prop :=
  match F with
  | some j => r.1 = j + 1 ∧ r.2.1 = s.extract (a - 1).toNat (j + 1).toNat ∧ r.2.2.2 = true
  | none => r.2.2.2 = false

section
variable {s : ByteArray} {a : Int} (h1 : 1 ≤ a) (hn : s.size ≤ 4096) (hq : bt s (a - 1) = 34)
include h1 hn hq

theorem l2_end (i : Int) (hi : i < s.size) (hia : a < i) (n : Nat) (N : Nat) (hN : n = N) (j : Int) (hj : j ≤ 0 ∨ (0 < j ∧ j < i ∧ bt s j ≠ 92)) :
    (∀ r, N % 2 = 0 → Ev (fun k => gjson_parseString.l1 k s (i + 1) a) r → Ev (fun k => gjson_parseString.l2 k s i a n j) r) ∧
    (N % 2 = 1 → ∃ r, Good s a (some i) r ∧ Ev (fun k => gjson_parseString.l2 k s i a n j) r) := by
  subst hN
  have hw : wrap64 (i + 1) = i + 1 := wr (by omega) (by omega)
  have hw2 : wrap64 (a - 1) = a - 1 := wr (by omega) (by omega)
  have ht : Int.tmod (n : Int) 2 = ((n % 2 : Nat) : Int) := rfl
  refine ⟨fun r h0 hr => Ev.step (fun k => ?_) hr, fun h0 => ⟨(i + 1, s.extract (a - 1).toNat (i + 1).toNat, true, true), ⟨rfl, rfl, rfl⟩, Ev.step (fun k => ?_) (Ev.now _)⟩⟩
  · rcases hj with hj | ⟨hj, hji, hb⟩
    · simp (disch := omega) only [gjson_parseString.l2, if_pos, if_neg, hw, hw2, ht]
    · simp (disch := omega) only [gjson_parseString.l2, if_pos, if_neg, hw, hw2, ht]
  · rcases hj with hj | ⟨hj, hji, hb⟩
    · simp (disch := omega) only [gjson_parseString.l2, if_pos, if_neg, hw, hw2, ht]
    · simp (disch := omega) only [gjson_parseString.l2, if_pos, if_neg, hw, hw2, ht]

/-- The count of the backslashes ahead of place a + D, from a + d on told already: n. -/
theorem l2_goes (i : Int) (hi : i < s.size) (D : Nat) (hD : i = a + D + 1) :
    ∀ (d n : Nat), n + cb s a d = cb s a D → d ≤ D →
    (∀ r, cb s a D % 2 = 0 → Ev (fun k => gjson_parseString.l1 k s (i + 1) a) r → Ev (fun k => gjson_parseString.l2 k s i a n (a + d - 1)) r) ∧
    (cb s a D % 2 = 1 → ∃ r, Good s a (some i) r ∧ Ev (fun k => gjson_parseString.l2 k s i a n (a + d - 1)) r)
  | 0, n, hc, hd => by
    refine l2_end h1 hn hq i hi (by omega) n _ (by simpa [cb] using hc) _ ?_
    by_cases h : a - 1 ≤ 0
    · exact .inl (by omega)
    · refine .inr ⟨by omega, by omega, ?_⟩
      rw [show a + ((0 : Nat) : Int) - 1 = a - 1 from by omega, hq]
      omega
  | d + 1, n, hc, hd => by
    have e : a + ((d + 1 : Nat) : Int) - 1 = a + d := by omega
    rw [e]
    by_cases hb : bt s (a + d) = 92
    · have ih := l2_goes i hi D hD d (n + 1) (by simp only [cb, hb, if_true] at hc; omega) (by omega)
      have hw : wrap64 (a + d - 1) = a + d - 1 := wr (by omega) (by omega)
      have hw2 : wrap64 ((n : Int) + 1) = ((n + 1 : Nat) : Int) := by rw [wr (by omega) (by have := cb_le s a D; omega)]; omega
      have st : ∀ k, gjson_parseString.l2 (k + 1) s i a n (a + d) = gjson_parseString.l2 k s i a ((n + 1 : Nat) : Int) (a + d - 1) := fun k => by
        simp (disch := omega) only [gjson_parseString.l2, if_pos, if_neg, hw, hw2]
      exact ⟨fun r h0 hr => Ev.step st (ih.1 r h0 hr), fun h0 => let ⟨r, g, h⟩ := ih.2 h0; ⟨r, g, Ev.step st h⟩⟩
    · exact l2_end h1 hn hq i hi (by omega) n _ (by simpa [cb, hb] using hc) _ (.inr ⟨by omega, by omega, hb⟩)

/-- Behind the first backslash. -/
theorem l1_goes : ∀ (d D : Nat) (i : Int), i = a + D → 1 ≤ D → i + d = s.size → ∃ r, Good s a (fq s d i (cb s a D % 2 == 1)) r ∧ Ev (fun k => gjson_parseString.l1 k s i a) r
  | 0, D, i, hi, hD, hs => by
    have hw2 : wrap64 (a - 1) = a - 1 := wr (by omega) (by omega)
    exact ⟨(i, s.extract (a - 1).toNat s.size, false, false), rfl, Ev.step (fun k => by simp (disch := omega) only [gjson_parseString.l1, if_pos, if_neg, hw2]) (Ev.now _)⟩
  | d + 1, D, i, hi, hD, hs => by
    obtain ⟨r, g, h⟩ := l1_goes d (D + 1) (i + 1) (by omega) (by omega) (by omega)
    have hw : wrap64 (i + 1) = i + 1 := wr (by omega) (by omega)
    have hw2 : wrap64 (a - 1) = a - 1 := wr (by omega) (by omega)
    have hw3 : wrap64 (i - 1) = i - 1 := wr (by omega) (by omega)
    have hw4 : wrap64 (i - 2) = i - 2 := wr (by omega) (by omega)
    have e : a + (D : Int) = i := hi.symm
    have hc : cb s a (D + 1) = if bt s i = 92 then cb s a D + 1 else 0 := by rw [← e]; rfl
    by_cases hb : bt s i = 34
    · have hc0 : cb s a (D + 1) = 0 := by rw [hc, if_neg (by omega)]
      rw [hc0] at g
      obtain ⟨D, rfl⟩ : ∃ m, D = m + 1 := ⟨D - 1, by omega⟩
      have e' : a + (D : Int) = i - 1 := by omega
      by_cases h92 : bt s (i - 1) = 92
      · have hcD : cb s a (D + 1) = cb s a D + 1 := by show (if bt s (a + D) = 92 then cb s a D + 1 else 0) = _; rw [e', if_pos h92]
        have st : ∀ k, gjson_parseString.l1 (k + 1) s i a = gjson_parseString.l2 k s i a ((0 : Nat) : Int) (a + D - 1) := fun k => by
          simp (disch := omega) only [gjson_parseString.l1, if_pos, if_neg, hw, hw2, hw3, hw4]
          rw [show i - 2 = a + D - 1 from by omega]; rfl
        have c := l2_goes h1 hn hq i (by omega) D (by omega) D 0 (by omega) (Nat.le_refl _)
        rw [hcD]
        rcases Nat.mod_two_eq_zero_or_one (cb s a D) with h2 | h2
        · refine ⟨r, ?_, Ev.step st (c.1 r h2 h)⟩
          rw [show (cb s a D + 1) % 2 = 1 from by omega]
          exact g
        · obtain ⟨r', g', h'⟩ := c.2 h2
          refine ⟨r', ?_, Ev.step st h'⟩
          rw [show (cb s a D + 1) % 2 = 0 from by omega]
          simp only [fq, hb, show ((0 : Nat) == 1) = false from rfl]
          exact g'
      · have hcD : cb s a (D + 1) = 0 := by show (if bt s (a + D) = 92 then cb s a D + 1 else 0) = _; rw [e', if_neg h92]
        rw [hcD]
        refine ⟨(i + 1, s.extract (a - 1).toNat (i + 1).toNat, true, true), ?_, Ev.step (fun k => ?_) (Ev.now _)⟩
        · simp only [fq, hb, show ((0 : Nat) % 2 == 1) = false from rfl]
          exact ⟨rfl, rfl, rfl⟩
        · simp (disch := omega) only [gjson_parseString.l1, if_pos, if_neg, hw, hw2, hw3, hw4]
    · refine ⟨r, ?_, Ev.step (fun k => ?_) h⟩
      · rw [hc] at g
        by_cases h92 : bt s i = 92
        · rw [if_pos h92] at g
          rcases Nat.mod_two_eq_zero_or_one (cb s a D) with h2 | h2
          · rw [h2]; rw [show (cb s a D + 1) % 2 = 1 from by omega] at g
            simp only [fq, h92, if_true, show ((0 : Nat) == 1) = false from rfl]
            exact g
          · rw [h2]; rw [show (cb s a D + 1) % 2 = 0 from by omega] at g
            exact g
        · rw [if_neg h92] at g
          cases hcd : (cb s a D % 2 == 1) with
          | true => exact g
          | false => simp only [fq, hb, h92, if_false]; exact g
      · by_cases hgt : bt s i > 92
        · simp (disch := omega) only [gjson_parseString.l1, if_pos, if_neg, hw]
        · simp (disch := omega) only [gjson_parseString.l1, if_pos, if_neg, hw]

/-- Ahead of the first backslash. -/
theorem l0_goes : ∀ (d D : Nat) (i : Int), i = a + D → cb s a D = 0 → i + d = s.size → ∃ r, Good s a (fq s d i false) r ∧ Ev (fun k => gjson_parseString.l0 k s i a) r
  | 0, D, i, hi, hD, hs => by
    have hw2 : wrap64 (a - 1) = a - 1 := wr (by omega) (by omega)
    exact ⟨(i, s.extract (a - 1).toNat s.size, false, false), rfl, Ev.step (fun k => by simp (disch := omega) only [gjson_parseString.l0, if_pos, if_neg, hw2]) (Ev.now _)⟩
  | d + 1, D, i, hi, hD, hs => by
    have hw : wrap64 (i + 1) = i + 1 := wr (by omega) (by omega)
    have hw2 : wrap64 (a - 1) = a - 1 := wr (by omega) (by omega)
    have e : a + (D : Int) = i := hi.symm
    have hc : cb s a (D + 1) = if bt s i = 92 then cb s a D + 1 else 0 := by rw [← e]; rfl
    by_cases h92 : bt s i = 92
    · obtain ⟨r, g, h⟩ := l1_goes h1 hn hq d (D + 1) (i + 1) (by omega) (by omega) (by omega)
      rw [hc, if_pos h92, hD] at g
      refine ⟨r, by simp only [fq, h92, if_true]; exact g, Ev.step (fun k => ?_) h⟩
      simp (disch := omega) only [gjson_parseString.l0, if_pos, if_neg, hw]
    · by_cases hb : bt s i = 34
      · refine ⟨(i + 1, s.extract (a - 1).toNat (i + 1).toNat, false, true), ?_, Ev.step (fun k => ?_) (Ev.now _)⟩
        · simp only [fq, hb]
          exact ⟨rfl, rfl, rfl⟩
        · simp (disch := omega) only [gjson_parseString.l0, if_pos, if_neg, hw, hw2]
      · obtain ⟨r, g, h⟩ := l0_goes d (D + 1) (i + 1) (by omega) (by rw [hc, if_neg h92]) (by omega)
        refine ⟨r, by simp only [fq, hb, h92, if_false]; exact g, Ev.step (fun k => ?_) h⟩
        by_cases hgt : bt s i > 92
        · simp (disch := omega) only [gjson_parseString.l0, if_pos, if_neg, hw]
        · simp (disch := omega) only [gjson_parseString.l0, if_pos, if_neg, hw]

/-- The law's own loop finds that mark, and the answer that the reading gave fits. -/
theorem law_goes (r : Int × ByteArray × Bool × Bool) (F : Option Int) (g : Good s a F r) (hF : ∀ j, F = some j → a ≤ j ∧ j < s.size) : ∀ (n d : Nat) (i : Int), d ≤ n → (i + d = s.size ∨ d = 0 ∧ i = s.size + 1) → a ≤ i → fq s d i false = F →
    Ev (fun k => laws_FnGjStringAtAny.l0 k s a r.1 r.2.1 r.2.2.2 0 false i) true
  | _, 0, i, _, hs, _, hf => by
    subst hf
    replace g : r.2.2.2 = false := g
    refine Ev.step (f := fun k => laws_FnGjStringAtAny.j2 k s a r.1 r.2.1 r.2.2.2 0 false i false) (fun k => ?_) (Ev.step (fun k => ?_) (Ev.now _))
    · simp only [laws_FnGjStringAtAny.l0]; rw [if_neg (by omega)]
    · simp [laws_FnGjStringAtAny.j2, g]
  | 0, d + 1, i, hn', hs, _, hf => by omega
  | n + 1, d + 1, i, hn', hs, hi, hf => by
    have hw : wrap64 (i + 1) = i + 1 := wr (by omega) (by omega)
    have hw1 : wrap64 (i + 1 + 1) = i + 2 := by rw [wr (by omega) (by omega)]; omega
    have hw2 : wrap64 (a - 1) = a - 1 := wr (by omega) (by omega)
    have st : ∀ k, laws_FnGjStringAtAny.l0 (k + 1) s a r.1 r.2.1 r.2.2.2 0 false i = laws_FnGjStringAtAny.j2 k s a r.1 r.2.1 r.2.2.2 0 false i true := fun k => by
      simp only [laws_FnGjStringAtAny.l0]; rw [if_pos (by omega)]; rfl
    by_cases h92 : bt s i = 92
    · have st2 : ∀ k, laws_FnGjStringAtAny.j2 (k + 1) s a r.1 r.2.1 r.2.2.2 0 false i true = laws_FnGjStringAtAny.l0 k s a r.1 r.2.1 r.2.2.2 0 false (i + 2) := fun k => by
        simp (disch := omega) only [laws_FnGjStringAtAny.j2, if_pos, if_true, hw, hw1]
      refine Ev.step st (Ev.step st2 ?_)
      simp only [fq, h92, if_true] at hf
      cases d with
      | zero => exact law_goes r F g hF n 0 (i + 2) (by omega) (by omega) (by omega) hf
      | succ d => exact law_goes r F g hF n d (i + 2) (by omega) (by omega) (by omega) (by rw [show i + 2 = i + 1 + 1 from by omega]; exact hf)
    · by_cases hb : bt s i = 34
      · simp only [fq, hb] at hf
        replace hf : some i = F := hf
        subst hf
        obtain ⟨g1, g2, g3⟩ := g
        refine Ev.step st (Ev.step (f := fun k => laws_FnGjStringAtAny.l0 k s a r.1 r.2.1 r.2.2.2 (i + 1) true (i + 1)) (fun k => ?_) (Ev.step (f := fun k => laws_FnGjStringAtAny.j2 k s a r.1 r.2.1 r.2.2.2 (i + 1) true (i + 1) false) (fun k => ?_) (Ev.step (fun k => ?_) (Ev.now _))))
        · simp (disch := omega) only [laws_FnGjStringAtAny.j2, if_pos, if_neg, if_true, hw, hw1]
        · simp only [laws_FnGjStringAtAny.l0]
          split <;> rfl
        · simp only [laws_FnGjStringAtAny.j2, g1, g2, g3, hw2]
          simp (disch := omega) only [if_pos, if_true, Bool.false_eq_true, if_false, beq_self_eq_true]
      · refine Ev.step st (Ev.step (f := fun k => laws_FnGjStringAtAny.l0 k s a r.1 r.2.1 r.2.2.2 0 false (i + 1)) (fun k => ?_) (law_goes r F g hF n d (i + 1) (by omega) (by omega) (by omega) (by simpa only [fq, h92, hb, if_false] using hf)))
        simp (disch := omega) only [laws_FnGjStringAtAny.j2, if_pos, if_neg, if_true, hw]

end

/-- YOURS -/
theorem FnGjStringAtAny : laws_FnGjStringAtAny.Pure := by
  intro s a hs ha
  by_cases h : ((s.size : Int) ≤ 4096 ∧ 1 ≤ a ∧ a ≤ s.size) ∧ bt s (a - 1) = 34
  · obtain ⟨⟨h1, h2, h3⟩, hq⟩ := h
    have hn : s.size ≤ 4096 := by omega
    have hw2 : wrap64 (a - 1) = a - 1 := wr (by omega) (by omega)
    obtain ⟨r, g, h⟩ := l0_goes h2 hn hq (s.size - a).toNat 0 a (by omega) rfl (by omega)
    have hl := law_goes h2 hn hq r _ g (fun j hj => by have := fq_range _ _ _ _ _ hj; omega) _ _ a (Nat.le_refl _) (by omega) (by omega) rfl
    have hi : Ev (fun k => impl_GjStringAt.f k s a) r := by
      unfold impl_GjStringAt.f gjson_DoorString.f gjson_parseString.f
      exact Ev.bind (f := fun _ x => some (x.1, x.2.1, x.2.2.1, x.2.2.2)) (Ev.bind (f := fun _ x => some (x.1, x.2.1, x.2.2.1, x.2.2.2)) h (Ev.now _)) (Ev.now _)
    refine Ev.rounds (Ev.congr (f := fun k => laws_FnGjStringAtAny.j0 k s a false) (fun k => ?_) (Ev.step (fun k => ?_) (Ev.bind (f := fun k x => laws_FnGjStringAtAny.l0 k s a x.1 x.2.1 x.2.2.2 0 false a) hi hl)))
    · unfold laws_FnGjStringAtAny.f
      simp (disch := omega) only [if_pos, if_neg, hw2, hq]
      rfl
    · simp only [laws_FnGjStringAtAny.j0]; rw [if_neg (by simp)]
  · refine ⟨1, ?_⟩
    have j0t : laws_FnGjStringAtAny.j0 1 s a true = some true := by simp [laws_FnGjStringAtAny.j0]
    unfold laws_FnGjStringAtAny.f
    by_cases c0 : (s.size : Int) > 2147483647
    · rw [if_pos c0]
    rw [if_neg c0]
    by_cases c1 : (s.size : Int) > 4096
    · rw [if_pos c1]; exact j0t
    rw [if_neg c1]
    by_cases c2 : a < 1
    · rw [if_pos c2]; exact j0t
    rw [if_neg c2]
    by_cases c3 : a > s.size
    · rw [if_pos c3]; exact j0t
    rw [if_neg c3]
    have hw2 : wrap64 (a - 1) = a - 1 := wr (by omega) (by omega)
    rw [hw2, if_pos (by omega), if_pos (by omega), show (bt s (a - 1) != 34) = true from bne_iff_ne.2 (fun e => h ⟨⟨by omega, by omega, by omega⟩, e⟩)]
    exact j0t

end Go.Proofs.Ytdndddembndnhaa.Pure
