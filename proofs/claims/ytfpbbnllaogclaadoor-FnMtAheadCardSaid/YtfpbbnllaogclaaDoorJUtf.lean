/- The reference's reading of UTF-8: plain definitions, and that the reference's functions compute them. -/
import Derived.Test.YtfpbbnllaogclaaDoorJByt
import Derived.Test.YtfpbbnllaogclaaDoorPAx4
import Derived.Test.YtfpbbnllaogclaaDoorPAx5
import Derived.Test.YtfpbbnllaogclaaDoorPAx6
import Derived.Test.YtfpbbnllaogclaaDoorPAx7
namespace Go.Proofs.YtfpbbnllaogclaaDoor.J
open Go.RowKit Go.Proofs.YtfpbbnllaogclaaDoor.PA Go.Proofs.YtfpbbnllaogclaaDoorW.PrintWords Go.Proofs.YtfpbbnllaogclaaDoorW.PrintLast
attribute [local irreducible] bt rd
set_option linter.unusedSimpArgs false
set_option linter.unusedVariables false

def conts (s : ByteArray) : Nat → Int → Int → Option Int
  | 0, _, a => some a
  | n + 1, p, a => if 128 ≤ bt s p ∧ bt s p ≤ 191 then conts s n (p + 1) (a * 64 + bt s p - 128) else none
def multi (s : ByteArray) (i a : Int) (n : Nat) (m : Int) : Option (Int × Int) :=
  if (s.size : Int) - i ≤ n then none else
  match conts s n (i + 1) a with
  | none => none
  | some r => if r < m ∨ r > 1114111 ∨ (55296 ≤ r ∧ r ≤ 57343) then none else some (r, n + 1)
/-- The character that stands at i, and how many bytes it has. -/
def chr (s : ByteArray) (i : Int) : Option (Int × Int) :=
  if bt s i < 128 then some (bt s i, 1)
  else if 194 ≤ bt s i ∧ bt s i ≤ 223 then multi s i (bt s i - 192) 1 128
  else if 224 ≤ bt s i ∧ bt s i ≤ 239 then multi s i (bt s i - 224) 2 2048
  else if 240 ≤ bt s i ∧ bt s i ≤ 244 then multi s i (bt s i - 240) 3 65536
  else none
theorem multi_len {s : ByteArray} {i a m r n' : Int} {n : Nat} (h : multi s i a n m = some (r, n')) : n' = n + 1 ∧ i + n' ≤ s.size ∧ 0 ≤ r - m := by
  unfold multi at h
  split at h
  · cases h
  · split at h
    · cases h
    · split at h
      · cases h
      · simp only [Option.some.injEq, Prod.mk.injEq] at h
        omega
theorem chr_len {s : ByteArray} {i r n : Int} (hi : i < s.size) (h : chr s i = some (r, n)) : 1 ≤ n ∧ n ≤ 4 ∧ i + n ≤ s.size := by
  unfold chr at h
  split at h
  · simp only [Option.some.injEq, Prod.mk.injEq] at h; omega
  · split at h
    · have := multi_len h; omega
    · split at h
      · have := multi_len h; omega
      · split at h
        · have := multi_len h; omega
        · cases h
theorem conts_ev {s : ByteArray} (hn : s.size ≤ 140737488351232) (i m : Int) (n : Nat) (hn4 : n ≤ 3) (h0 : 0 ≤ i) (hi : n < (s.size : Int) - i) :
    ∀ (d : Nat) (x a : Int), 1 ≤ x → x + d = n + 1 → 0 ≤ a → a < 2 ^ (6 + 6 * x.toNat) →
    (∀ r, conts s d (i + x) a = some r → Ev (fun k => spec_Character.l0 k s i a n m x) (if r < m ∨ r > 1114111 ∨ (55296 ≤ r ∧ r ≤ 57343) then (65533, 1, false) else (r, (n : Int) + 1, true))) ∧
    (conts s d (i + x) a = none → Ev (fun k => spec_Character.l0 k s i a n m x) (65533, 1, false))
  | 0, x, a, hx, hd, ha, hb => by
    have hw : wrap64 ((n : Int) + 1) = (n : Int) + 1 := wr (by omega) (by omega)
    refine ⟨fun r h => ?_, fun h => by simp [conts] at h⟩
    simp only [conts, Option.some.injEq] at h
    subst h
    by_cases c1 : a < m
    · rw [if_pos (.inl c1)]
      exact ev_one fun k => by simp (disch := omega) only [spec_Character.l0, if_pos, if_neg]
    by_cases c2 : a > 1114111
    · rw [if_pos (.inr (.inl c2))]
      exact ev_one fun k => by simp (disch := omega) only [spec_Character.l0, if_pos, if_neg]
    by_cases c3 : 55296 ≤ a ∧ a ≤ 57343
    · rw [if_pos (.inr (.inr c3))]
      refine ev_one fun k => ?_
      simp (disch := omega) only [spec_Character.l0, if_pos, if_neg, spec_high.f, spec_low.f, Option.bind_some]
      by_cases c4 : a ≤ 56319
      · rw [decide_eq_true c4]; rfl
      · rw [decide_eq_false c4]
        simp (disch := omega) only [Bool.false_eq_true, if_false, if_pos, Option.bind_some, decide_eq_true c3.2, if_true]
    · rw [if_neg (by omega)]
      refine ev_one fun k => ?_
      simp (disch := omega) only [spec_Character.l0, if_neg, spec_high.f, spec_low.f, hw]
      by_cases c4 : 55296 ≤ a
      · simp (disch := omega) only [if_pos, decide_eq_false (show ¬ a ≤ 56319 by omega), Option.bind_some, Bool.false_eq_true, if_false, decide_eq_false (show ¬ a ≤ 57343 by omega)]
      · simp (disch := omega) only [if_neg, Option.bind_some, Bool.false_eq_true, if_false]
  | d + 1, x, a, hx, hd, ha, hb => by
    have hp : a < 16777216 := Int.lt_of_lt_of_le hb (by
      have : x.toNat ≤ 3 := by omega
      have : (2 : Int) ^ (6 + 6 * x.toNat) ≤ 2 ^ 24 := by
        have h2 : (2 : Nat) ^ (6 + 6 * x.toNat) ≤ 2 ^ 24 := Nat.pow_le_pow_right (by omega) (by omega)
        have h3 : ((2 ^ (6 + 6 * x.toNat) : Nat) : Int) ≤ ((2 ^ 24 : Nat) : Int) := Int.ofNat_le.2 h2
        simpa using h3
      omega)
    have hw1 : wrap64 (i + x) = i + x := wr (by omega) (by omega)
    have hlo := bt_lo s (i + x)
    have hhi := bt_hi s (i + x)
    have hw2 : wrap64 (bt s (i + x)) = bt s (i + x) := wr (by omega) (by omega)
    have hw3 : wrap64 (a * 64) = a * 64 := wr (by omega) (by omega)
    have hw4 : wrap64 (a * 64 + bt s (i + x)) = a * 64 + bt s (i + x) := wr (by omega) (by omega)
    have hw5 : wrap64 (a * 64 + bt s (i + x) - 128) = a * 64 + bt s (i + x) - 128 := wr (by omega) (by omega)
    have hw6 : wrap64 (x + 1) = x + 1 := wr (by omega) (by omega)
    by_cases c : 128 ≤ bt s (i + x) ∧ bt s (i + x) ≤ 191
    · have hpow : (2 : Int) ^ (6 + 6 * (x + 1).toNat) = 2 ^ (6 + 6 * x.toNat) * 64 := by
        rw [show (x + 1).toNat = x.toNat + 1 from by omega, show 6 + 6 * (x.toNat + 1) = (6 + 6 * x.toNat) + 6 from by omega, Int.pow_add]; rfl
      have ih := conts_ev hn i m n hn4 h0 hi d (x + 1) (a * 64 + bt s (i + x) - 128) (by omega) (by omega) (by omega) (by rw [hpow]; omega)
      have e : conts s (d + 1) (i + x) a = conts s d (i + (x + 1)) (a * 64 + bt s (i + x) - 128) := by
        rw [conts, if_pos c, Int.add_assoc]
      have st : ∀ k, spec_Character.l0 (k + 1) s i a n m x = spec_Character.l0 k s i (a * 64 + bt s (i + x) - 128) n m (x + 1) := fun k => by
        simp (disch := omega) only [spec_Character.l0, if_pos, if_neg, hw1, hw2, hw3, hw4, hw5, hw6]
      rw [e]
      exact ⟨fun r h => Ev.step st (ih.1 r h), fun h => Ev.step st (ih.2 h)⟩
    · have e : conts s (d + 1) (i + x) a = none := by rw [conts, if_neg c]
      rw [e]
      refine ⟨fun r h => (by cases h), fun _ => ev_one fun k => ?_⟩
      by_cases c1 : bt s (i + x) < 128
      · simp (disch := omega) only [spec_Character.l0, if_pos, hw1, hw2]
      · simp (disch := omega) only [spec_Character.l0, if_pos, if_neg, hw1, hw2]
theorem multi_ev {s : ByteArray} (hn : s.size ≤ 140737488351232) {i a m : Int} {n : Nat} (hn4 : n ≤ 3) (h0 : 0 ≤ i) (hi : i < s.size) (ha : 0 ≤ a) (hb : a < 64) :
    Ev (fun k => spec_Character.j2 k s i a n m) (match multi s i a n m with | some (r, n) => (r, n, true) | none => (65533, 1, false)) := by
  have hw : wrap64 ((s.size : Int) - i) = (s.size : Int) - i := wr (by omega) (by omega)
  unfold multi
  by_cases c : (s.size : Int) - i ≤ n
  · rw [if_pos c]
    exact ev_one fun k => by simp only [spec_Character.j2, hw, if_pos c]
  · rw [if_neg c]
    have g := conts_ev hn i m n hn4 h0 (by omega) n 1 a (by omega) (by omega) ha (by
      show a < 2 ^ (6 + 6 * (1 : Int).toNat)
      have : (2 : Int) ^ (6 + 6 * (1 : Int).toNat) = 4096 := by decide
      omega)
    refine Ev.step (f := fun k => spec_Character.l0 k s i a n m 1) (fun k => by simp only [spec_Character.j2, hw, if_neg c]) ?_
    cases h : conts s n (i + 1) a with
    | none => exact g.2 h
    | some r =>
      have := g.1 r h
      simp only
      split
      · rename_i h2
        split at h2
        · cases h2
        · rename_i h3
          rw [if_neg h3] at this
          simp only [Option.some.injEq, Prod.mk.injEq] at h2
          obtain ⟨rfl, rfl⟩ := h2
          exact this
      · rename_i h2
        split at h2
        · rename_i h3
          rw [if_pos h3] at this
          exact this
        · cases h2
theorem chr_ev {s : ByteArray} (hn : s.size ≤ 140737488351232) {i : Int} (h0 : 0 ≤ i) (hi : i < s.size) :
    Ev (fun k => spec_Character.f k s i) (match chr s i with | some (r, n) => (r, n, true) | none => (65533, 1, false)) := by
  have hlo := bt_lo s i
  have hhi := bt_hi s i
  have hw : wrap64 (bt s i) = bt s i := wr (by omega) (by omega)
  unfold chr
  by_cases c1 : bt s i < 128
  · rw [if_pos c1]
    exact ev_const fun k => by simp (disch := omega) only [spec_Character.f, if_pos, hw]
  rw [if_neg c1]
  by_cases c2 : 194 ≤ bt s i ∧ bt s i ≤ 223
  · rw [if_pos c2]
    have hw2 : wrap64 (bt s i - 192) = bt s i - 192 := wr (by omega) (by omega)
    have := multi_ev hn (n := 1) (m := 128) (by omega) h0 hi (a := bt s i - 192) (by omega) (by omega)
    refine Ev.congr (f := fun k => spec_Character.j0 k s i (bt s i) true) (fun k => ?_) (Ev.step (fun k => ?_) this)
    · simp (disch := omega) only [spec_Character.f, if_pos, if_neg, hw, decide_eq_true c2.2]
    · simp only [spec_Character.j0, if_true, hw2]; rfl
  rw [if_neg c2]
  have st0 : ∀ k, spec_Character.f k s i = spec_Character.j0 k s i (bt s i) false := fun k => by
    by_cases c : 194 ≤ bt s i
    · simp (disch := omega) only [spec_Character.f, if_pos, if_neg, hw, decide_eq_false (show ¬ bt s i ≤ 223 by omega)]
    · simp (disch := omega) only [spec_Character.f, if_pos, if_neg, hw]
  by_cases c3 : 224 ≤ bt s i ∧ bt s i ≤ 239
  · rw [if_pos c3]
    have hw2 : wrap64 (bt s i - 224) = bt s i - 224 := wr (by omega) (by omega)
    have := multi_ev hn (n := 2) (m := 2048) (by omega) h0 hi (a := bt s i - 224) (by omega) (by omega)
    refine Ev.congr st0 (Ev.step (f := fun k => spec_Character.j1 k s i (bt s i) true) (fun k => ?_) (Ev.step (fun k => ?_) this))
    · simp (disch := omega) only [spec_Character.j0, Bool.false_eq_true, if_false, if_pos, decide_eq_true c3.2]
    · simp only [spec_Character.j1, if_true, hw2]; rfl
  rw [if_neg c3]
  have st1 : ∀ k, spec_Character.j0 (k + 1) s i (bt s i) false = spec_Character.j1 k s i (bt s i) false := fun k => by
    by_cases c : 224 ≤ bt s i
    · simp (disch := omega) only [spec_Character.j0, Bool.false_eq_true, if_false, if_pos, decide_eq_false (show ¬ bt s i ≤ 239 by omega)]
    · simp (disch := omega) only [spec_Character.j0, Bool.false_eq_true, if_false, if_neg]
  by_cases c4 : 240 ≤ bt s i ∧ bt s i ≤ 244
  · rw [if_pos c4]
    have hw2 : wrap64 (bt s i - 240) = bt s i - 240 := wr (by omega) (by omega)
    have := multi_ev hn (n := 3) (m := 65536) (by omega) h0 hi (a := bt s i - 240) (by omega) (by omega)
    refine Ev.congr st0 (Ev.step st1 (Ev.step (fun k => ?_) this))
    simp (disch := omega) only [spec_Character.j1, Bool.false_eq_true, if_false, if_pos, hw2]
    rfl
  · rw [if_neg c4]
    refine Ev.congr st0 (Ev.step st1 (ev_one fun k => ?_))
    by_cases c : 240 ≤ bt s i
    · simp (disch := omega) only [spec_Character.j1, Bool.false_eq_true, if_false, if_pos, if_neg]
    · simp (disch := omega) only [spec_Character.j1, Bool.false_eq_true, if_false, if_neg]
/-- From i on the text is UTF-8. -/
inductive Utf (s : ByteArray) : Int → Prop
  | done {i : Int} : (s.size : Int) ≤ i → Utf s i
  | next {i r n : Int} : i < (s.size : Int) → chr s i = some (r, n) → Utf s (i + n) → Utf s i
theorem utf_l0 {s : ByteArray} (hn : s.size ≤ 140737488351232) : ∀ (d : Nat) (i : Int), 0 ≤ i → (s.size : Int) - i ≤ d → ∃ b, Ev (fun k => spec_UTF8.l0 k s i) b ∧ (b = true ↔ Utf s i) := by
  intro d
  induction d with
  | zero =>
    intro i h0 hd
    exact ⟨true, ev_one fun k => by simp (disch := omega) only [spec_UTF8.l0, if_neg], fun _ => .done (by omega), fun _ => rfl⟩
  | succ d ih =>
    intro i h0 hd
    by_cases hi : i < s.size
    · have e := chr_ev hn h0 hi
      have st : ∀ k, spec_UTF8.l0 (k + 1) s i = (spec_Character.f k s i).bind fun b => if b.2.2 = true then spec_UTF8.l0 k s (wrap64 (i + b.2.1)) else some false := fun k => by
        simp (disch := omega) only [spec_UTF8.l0, if_pos]
      cases hc : chr s i with
      | none =>
        rw [hc] at e
        refine ⟨false, Ev.step st (Ev.bind (f := fun k b => if b.2.2 = true then spec_UTF8.l0 k s (wrap64 (i + b.2.1)) else some false) e (ev_const fun _ => rfl)), (fun h => by cases h), fun h => ?_⟩
        cases h with
        | done h => omega
        | next _ h => rw [hc] at h; cases h
      | some p =>
        obtain ⟨r, n⟩ := p
        rw [hc] at e
        have hl := chr_len hi hc
        obtain ⟨b, hb, hu⟩ := ih (i + n) (by omega) (by omega)
        have hw : wrap64 (i + n) = i + n := wr (by omega) (by omega)
        refine ⟨b, Ev.step st (Ev.bind (f := fun k b => if b.2.2 = true then spec_UTF8.l0 k s (wrap64 (i + b.2.1)) else some false) e (by simpa only [if_true, hw] using hb)), fun h => .next hi hc (hu.1 h), fun h => ?_⟩
        cases h with
        | done h => omega
        | next _ h g =>
          rw [hc] at h
          simp only [Option.some.injEq, Prod.mk.injEq] at h
          obtain ⟨rfl, rfl⟩ := h
          exact hu.2 g
    · exact ⟨true, ev_one fun k => by simp (disch := omega) only [spec_UTF8.l0, if_neg], fun _ => .done (by omega), fun _ => rfl⟩
theorem utf_ev {s : ByteArray} (hn : s.size ≤ 140737488351232) : ∃ b, Ev (fun k => spec_UTF8.f k s) b ∧ (b = true ↔ Utf s 0) := by
  obtain ⟨b, h, g⟩ := utf_l0 hn s.size 0 (by omega) (by omega)
  exact ⟨b, h, g⟩
end Go.Proofs.YtfpbbnllaogclaaDoor.J
