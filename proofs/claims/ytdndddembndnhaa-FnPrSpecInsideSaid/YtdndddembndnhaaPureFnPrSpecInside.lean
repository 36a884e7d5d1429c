/- What stands in a string is left as it is by Spec, whatever comments stand ahead and behind, under the law's own guards alone. -/
import Derived.Test.YtdndddembndnhaaPAx1
import Derived.Test.YtdndddembndnhaaPAx37
import Derived.Test.YtdndddembndnhaaPAx38
import Derived.Test.YtdndddembndnhaaPAx39
import Derived.Test.YtdndddembndnhaaPAx43
import Derived.Test.YtdndddembndnhaaPAx44
import Derived.Test.YtdndddembndnhaaPAx45
import Derived.Test.YtdndddembndnhaaPAx46
import Derived.Test.YtdndddembndnhaaPAx47
import Derived.Test.YtdndddembndnhaaPAx48
import Derived.Test.YtdndddembndnhaaJByt
import Derived.Test.YtdndddembndnhaaJStr
import Derived.Test.YtdndddembndnhaaJUtf
namespace Go.Proofs.Ytdndddembndnhaa.Pure
open Go.RowKit Go.Proofs.Ytdndddembndnhaa.PA Go.Proofs.Ytdndddembndnhaa.J Go.Proofs.YtdndddembndnhaaW.PrintWords Go.Proofs.YtdndddembndnhaaW.PrintLast

set_option linter.unusedSimpArgs false
set_option linter.unusedVariables false

theorem rd_at {l p q : List Int} {c : Int} (h : l = p ++ c :: q) {i : Int} (hi : i = p.length) : rd l i = c := by
  subst h hi
  simp [rd, List.getD_eq_getElem?_getD]
attribute [local irreducible] rd
/-- An even count of backslashes stands at the end, a byte that is none ahead of them. -/
def Even (l : List Int) : Prop := ∃ p x n, l = p ++ x :: List.replicate (2 * n) 92 ∧ x ≠ 92
/-- What is put out for a byte of a string. -/
def qu (c : Int) : List Int :=
  if c = 8 then [92, 98] else if c = 12 then [92, 102] else if c = 10 then [92, 110] else if c = 13 then [92, 114] else if c = 9 then [92, 116]
  else if c = 34 then [92, 34] else if c = 92 then [92, 92]
  else if c < 32 then [92, 117, 48, 48, 48 + c / 16, if c % 16 < 10 then 48 + c % 16 else 87 + c % 16] else [c]
theorem qu_cases (c : Int) (h0 : 0 ≤ c) (h1 : c ≤ 255) : (∃ x, qu c = [92, x] ∧ x ≠ 92 ∧ x ≠ 34 ∧ 0 ≤ x ∧ x ≤ 255) ∨ qu c = [92, 34] ∨ qu c = [92, 92] ∨ (∃ a b, qu c = [92, 117, 48, 48, a, b] ∧ 48 ≤ a ∧ a ≤ 57 ∧ 48 ≤ b ∧ b ≤ 102 ∧ b ≠ 92) ∨ (qu c = [c] ∧ c ≠ 92 ∧ c ≠ 34) := by
  unfold qu
  by_cases c1 : c = 8
  · rw [if_pos c1]; exact .inl ⟨98, rfl, by decide, by decide, by decide, by decide⟩
  rw [if_neg c1]
  by_cases c2 : c = 12
  · rw [if_pos c2]; exact .inl ⟨102, rfl, by decide, by decide, by decide, by decide⟩
  rw [if_neg c2]
  by_cases c3 : c = 10
  · rw [if_pos c3]; exact .inl ⟨110, rfl, by decide, by decide, by decide, by decide⟩
  rw [if_neg c3]
  by_cases c4 : c = 13
  · rw [if_pos c4]; exact .inl ⟨114, rfl, by decide, by decide, by decide, by decide⟩
  rw [if_neg c4]
  by_cases c5 : c = 9
  · rw [if_pos c5]; exact .inl ⟨116, rfl, by decide, by decide, by decide, by decide⟩
  rw [if_neg c5]
  by_cases c6 : c = 34
  · rw [if_pos c6]; exact .inr (.inl rfl)
  rw [if_neg c6]
  by_cases c7 : c = 92
  · rw [if_pos c7]; exact .inr (.inr (.inl rfl))
  rw [if_neg c7]
  by_cases c8 : c < 32
  · rw [if_pos c8]
    refine .inr (.inr (.inr (.inl ⟨_, _, rfl, by omega, by omega, ?_⟩)))
    split <;> omega
  · rw [if_neg c8]
    exact .inr (.inr (.inr (.inr ⟨rfl, c7, c6⟩)))
theorem qu_len (c : Int) (h0 : 0 ≤ c) (h1 : c ≤ 255) : (qu c).length ≤ 6 := by
  rcases qu_cases c h0 h1 with ⟨x, h, _⟩ | h | h | ⟨a, b, h, _⟩ | ⟨h, _⟩ <;> rw [h] <;> simp
theorem qu_isB (c : Int) (h0 : 0 ≤ c) (h1 : c ≤ 255) : IsB (qu c) := by
  intro y hy
  rcases qu_cases c h0 h1 with ⟨x, h, _⟩ | h | h | ⟨a, b, h, _⟩ | ⟨h, _⟩ <;> rw [h] at hy <;> simp at hy <;> omega
def quo (l : List Int) : List Int := l.flatMap qu
theorem quo_isB {l : List Int} (h : IsB l) : IsB (quo l) := by
  intro y hy
  simp only [quo, List.mem_flatMap] at hy
  obtain ⟨c, hc, hy⟩ := hy
  exact qu_isB c (h c hc).1 (h c hc).2 y hy
theorem quo_len {l : List Int} (h : IsB l) : (quo l).length ≤ 6 * l.length := by
  induction l with
  | nil => simp [quo]
  | cons c l ih =>
    rw [isB_cons] at h
    have := qu_len c h.1.1 h.1.2
    have := ih h.2
    simp only [quo, List.flatMap_cons, List.length_append, List.length_cons] at *
    omega

theorem quote_l0 (s : ByteArray) (hs : s.size ≤ 2147483647) : ∀ (d i : Nat) (acc : List Int), i + d = s.size → acc.length ≤ 6 * i + 1 →
    Ev (fun k => spec_Quote.l0 k s acc i) (strOfNums (acc ++ quo ((bytesOf s).drop i) ++ [34]))
  | 0, i, acc, hi, ha => by
    have e : (bytesOf s).drop i = [] := List.drop_eq_nil_of_le (by rw [bytesOf_length]; omega)
    rw [e]
    refine ev_one fun k => ?_
    simp (disch := omega) only [spec_Quote.l0, if_neg, if_pos]
    simp [quo]
  | d + 1, i, acc, hi, ha => by
    have hw : wrap64 ((i : Int) + 1) = ((i + 1 : Nat) : Int) := by rw [wr (by omega) (by omega)]; omega
    have hlt : i < (bytesOf s).length := by rw [bytesOf_length]; omega
    have hd : (bytesOf s).drop i = bt s i :: (bytesOf s).drop (i + 1) := by
      rw [List.drop_eq_getElem_cons hlt, bt_nat]
      simp [List.getD_eq_getElem?_getD, List.getElem?_eq_getElem hlt]
    have h0 := bt_lo s i
    have h1 := bt_hi s i
    have hl := qu_len (bt s i) h0 h1
    have hp : acc ++ quo ((bytesOf s).drop i) = (acc ++ qu (bt s i)) ++ quo ((bytesOf s).drop (i + 1)) := by
      rw [hd]; simp [quo]
    have ih := quote_l0 s hs d (i + 1) (acc ++ qu (bt s i)) (by omega) (by rw [List.length_append]; omega)
    rw [← hp] at ih
    -- the three ways of a byte
    have two : ∀ x : Int, qu (bt s i) = [92, x] → bt s i ≠ 47 → Ev (fun k => spec_Quote.j1 k s acc i (bt s i) x true) (strOfNums (acc ++ quo ((bytesOf s).drop i) ++ [34])) := fun x hx h47 => by
      rw [hx] at ih
      refine Ev.step (fun k => ?_) ih
      simp (disch := omega) only [spec_Quote.j1, if_true, Option.bind_some, List.length_cons, List.length_nil, if_pos, hw]
    have st : ∀ (k : Nat) (x : Int) (b : Bool), spec_shortOf.f (bt s i) = some (x, b) → spec_Quote.l0 (k + 1) s acc i = if b = true then spec_Quote.j1 k s acc i (bt s i) x (bt s i != 47) else spec_Quote.j1 k s acc i (bt s i) x false := fun k x b hb => by
      simp (disch := omega) only [spec_Quote.l0, if_pos, hb, Option.bind_some]
    have esc : ∀ x : Int, spec_shortOf.f (bt s i) = some (x, true) → bt s i ≠ 47 → qu (bt s i) = [92, x] → Ev (fun k => spec_Quote.l0 k s acc i) (strOfNums (acc ++ quo ((bytesOf s).drop i) ++ [34])) := fun x hb h47 hx => by
      refine Ev.step (fun k => ?_) (two x hx h47)
      rw [st k x true hb, if_pos rfl, bne_iff_ne.2 h47]
    have other : ∀ x : Int, (qu (bt s i) = [bt s i]) → 32 ≤ bt s i → Ev (fun k => spec_Quote.j1 k s acc i (bt s i) x false) (strOfNums (acc ++ quo ((bytesOf s).drop i) ++ [34])) := fun x hx h32 => by
      rw [hx] at ih
      refine Ev.step (fun k => ?_) ih
      simp (disch := omega) only [spec_Quote.j1, Bool.false_eq_true, if_false, if_neg, if_pos, hw]
    by_cases c1 : bt s i = 8
    · exact esc 98 (by rw [c1]; rfl) (by omega) (by rw [c1]; rfl)
    by_cases c2 : bt s i = 12
    · exact esc 102 (by rw [c2]; rfl) (by omega) (by rw [c2]; rfl)
    by_cases c3 : bt s i = 10
    · exact esc 110 (by rw [c3]; rfl) (by omega) (by rw [c3]; rfl)
    by_cases c4 : bt s i = 13
    · exact esc 114 (by rw [c4]; rfl) (by omega) (by rw [c4]; rfl)
    by_cases c5 : bt s i = 9
    · exact esc 116 (by rw [c5]; rfl) (by omega) (by rw [c5]; rfl)
    by_cases c6 : bt s i = 34
    · exact esc 34 (by rw [c6]; rfl) (by omega) (by rw [c6]; rfl)
    by_cases c7 : bt s i = 92
    · exact esc 92 (by rw [c7]; rfl) (by omega) (by rw [c7]; rfl)
    have hq : ¬ bt s i < 32 → qu (bt s i) = [bt s i] := fun h => by
      simp only [qu, if_neg c1, if_neg c2, if_neg c3, if_neg c4, if_neg c5, if_neg c6, if_neg c7, if_neg h]
    by_cases c8 : bt s i = 47
    · refine Ev.step (fun k => ?_) (other 47 (hq (by omega)) (by omega))
      rw [st k 47 true (by rw [c8]; rfl), if_pos rfl, c8]; rfl
    have sh : spec_shortOf.f (bt s i) = some (0, false) := by
      simp only [spec_shortOf.f, if_neg c1, if_neg c2, if_neg c3, if_neg c4, if_neg c5, if_neg c6, if_neg c7, if_neg c8]
    by_cases c9 : bt s i < 32
    · have hq2 : qu (bt s i) = [92, 117, 48, 48, 48 + bt s i / 16, if bt s i % 16 < 10 then 48 + bt s i % 16 else 87 + bt s i % 16] := by
        simp only [qu, if_neg c1, if_neg c2, if_neg c3, if_neg c4, if_neg c5, if_neg c6, if_neg c7, if_pos c9]
      rw [hq2] at ih
      have ht : Int.tmod (bt s i) 16 = bt s i % 16 := Int.tmod_eq_emod_of_nonneg h0
      have ht2 : Int.tdiv (bt s i) 16 = bt s i / 16 := Int.tdiv_eq_ediv_of_nonneg h0
      have hw2 : wrap64 (bt s i % 16) = bt s i % 16 := wr (by omega) (by omega)
      have hdig : spec_digitOf.f (bt s i % 16) false = some (if bt s i % 16 < 10 then 48 + bt s i % 16 else 87 + bt s i % 16) := by
        unfold spec_digitOf.f
        split
        · rw [wr (by omega) (by omega)]; congr 1; omega
        · simp only [Bool.false_eq_true, if_false]
          rw [wr (x := 97 + bt s i % 16) (by omega) (by omega), wr (by omega) (by omega)]; congr 1; omega
      have e48 : (48 + (bt s i / 16) % 256) % 256 = 48 + bt s i / 16 := by omega
      refine Ev.step (f := fun k => spec_Quote.j1 k s acc i (bt s i) 0 false) (fun k => ?_) (Ev.step (fun k => ?_) ih)
      · rw [st k 0 false sh]; rfl
      · simp (disch := omega) only [spec_Quote.j1, Bool.false_eq_true, if_false, if_pos, ht, ht2, hw2, hdig, e48, Option.bind_some, List.length_cons, List.length_nil, hw]
    · refine Ev.step (fun k => ?_) (other 0 (hq c9) (by omega))
      rw [st k 0 false sh]; rfl
theorem quote_ev (s : ByteArray) (hs : s.size ≤ 2147483647) : Ev (fun k => spec_Quote.f k s) (strOfNums ([34] ++ quo (bytesOf s) ++ [34])) := quote_l0 s hs s.size 0 [34] (by omega) (by simp)

section
variable {T : List Int} (hT : T.length ≤ 100000)
include hT
theorem l4_goes (p q : List Int) (x : Int) (hx : x ≠ 92) (out : List Int) (i : Nat) (hi : i ≤ 100000) : ∀ (n : Nat), n ≤ 100000 → (∃ q, T = (p ++ x :: List.replicate n 92) ++ q) → ∀ r,
    ((∃ m : Nat, (i : Int) - p.length = 2 * m) → Ev (fun k => pretty_spec.l3 k T out ((i : Int) + 1)) r → Ev (fun k => pretty_spec.l4 k T out i ((p.length : Int) + n)) r) ∧
    ((∃ m : Nat, (i : Int) - p.length = 2 * m + 1) → Ev (fun k => pretty_spec.l0 k T out ((i : Int) + 1)) r → Ev (fun k => pretty_spec.l4 k T out i ((p.length : Int) + n)) r)
  | 0, _, ⟨q, hq⟩, r => by
    have hb : rd T ((p.length : Int) + ((0 : Nat) : Int)) = x := rd_at (p := p) (q := q) (by rw [hq]; simp) (by omega)
    have hlen : T.length = p.length + 1 + q.length := by rw [hq]; simp; omega
    have hw : wrap64 ((p.length : Int) + ((0 : Nat) : Int) - i) = (p.length : Int) - i := by rw [wr (by omega) (by omega)]; omega
    have hw2 : wrap64 ((i : Int) + 1) = (i : Int) + 1 := wr (by omega) (by omega)
    refine ⟨fun ⟨m, hm⟩ h => Ev.step (fun k => ?_) h, fun ⟨m, hm⟩ h => Ev.step (fun k => ?_) h⟩
    · have ht : Int.tmod ((p.length : Int) - i) 2 = 0 := by rw [show (p.length : Int) - i = -(2 * m) from by omega, Int.neg_tmod, Int.mul_tmod_right]; rfl
      simp (disch := omega) only [pretty_spec.l4, if_pos, hb, if_neg hx, hw, ht, if_true, hw2]
    · have ht : Int.tmod ((p.length : Int) - i) 2 ≠ 0 := by
        rw [show (p.length : Int) - i = -(2 * m + 1) from by omega, Int.neg_tmod, Int.tmod_eq_emod_of_nonneg (by omega)]; omega
      simp (disch := omega) only [pretty_spec.l4, if_pos, hb, if_neg hx, hw, if_neg ht, hw2]
  | n + 1, hn, ⟨q, hq⟩, r => by
    have hb : rd T ((p.length : Int) + ((n + 1 : Nat) : Int)) = 92 := rd_at (p := p ++ x :: List.replicate n 92) (q := q) (by rw [hq, List.replicate_succ']; simp) (by simp)
    have hlen : T.length = p.length + 1 + (n + 1) + q.length := by rw [hq]; simp; omega
    have hw : wrap64 ((p.length : Int) + ((n + 1 : Nat) : Int) - 1) = (p.length : Int) + n := by rw [wr (by omega) (by omega)]; omega
    have ih := l4_goes p q x hx out i hi n (by omega) ⟨92 :: q, by rw [hq, List.replicate_succ']; simp⟩ r
    have st : ∀ k, pretty_spec.l4 (k + 1) T out i ((p.length : Int) + ((n + 1 : Nat) : Int)) = pretty_spec.l4 k T out i ((p.length : Int) + n) := fun k => by
      simp (disch := omega) only [pretty_spec.l4, if_pos, hb, if_true, hw]
    exact ⟨fun a h => Ev.step st (ih.1 a h), fun a h => Ev.step st (ih.2 a h)⟩

/-- One byte of a string's inside that is no quotation mark. -/
theorem l3_byte (pre post : List Int) (b : Int) (hb : b ≠ 34) (h : T = pre ++ b :: post) (out : List Int) (ho : out.length ≤ 100000) (r : List Int)
    (hr : Ev (fun k => pretty_spec.l3 k T (out ++ [b]) ((pre ++ [b]).length : Int)) r) : Ev (fun k => pretty_spec.l3 k T out (pre.length : Int)) r := by
  have hr' : rd T (pre.length : Int) = b := rd_at h rfl
  have hlen : T.length = pre.length + 1 + post.length := by rw [h]; simp; omega
  have hw : wrap64 ((pre.length : Int) + 1) = ((pre ++ [b]).length : Int) := by rw [wr (by omega) (by omega)]; simp
  refine Ev.step (fun k => ?_) hr
  simp (disch := omega) only [pretty_spec.l3, if_pos, hr', Option.bind_some, if_neg hb, hw]
/-- The quotation mark that ends the string. -/
theorem l3_last (pre post : List Int) (he : Even pre) (h : T = pre ++ 34 :: post) (out : List Int) (ho : out.length ≤ 100000) (r : List Int)
    (hr : Ev (fun k => pretty_spec.l0 k T (out ++ [34]) ((pre.length : Int) + 1)) r) : Ev (fun k => pretty_spec.l3 k T out (pre.length : Int)) r := by
  have hr' : rd T (pre.length : Int) = 34 := rd_at h rfl
  have hlen : T.length = pre.length + 1 + post.length := by rw [h]; simp; omega
  obtain ⟨p, x, n, hp, hx⟩ := he
  have hpl : pre.length = p.length + 1 + 2 * n := by rw [hp]; simp; omega
  have hw : wrap64 ((pre.length : Int) - 1) = (p.length : Int) + ((2 * n : Nat) : Int) := by rw [wr (by omega) (by omega)]; omega
  have g := (l4_goes hT p [] x hx (out ++ [34]) pre.length (by omega) (2 * n) (by omega) ⟨34 :: post, by rw [h, hp]⟩ r).2 ⟨n, by omega⟩ hr
  refine Ev.step (fun k => ?_) g
  simp (disch := omega) only [pretty_spec.l3, if_pos, hr', Option.bind_some, hw, if_true]
/-- A quotation mark behind a backslash. -/
theorem l3_mark (pre post : List Int) (he : Even pre) (h : T = (pre ++ [92]) ++ 34 :: post) (out : List Int) (ho : out.length ≤ 100000) (r : List Int)
    (hr : Ev (fun k => pretty_spec.l3 k T (out ++ [34]) ((pre ++ [92, 34]).length : Int)) r) : Ev (fun k => pretty_spec.l3 k T out ((pre ++ [92]).length : Int)) r := by
  have hr' : rd T ((pre ++ [92]).length : Int) = 34 := rd_at h rfl
  have hlen : T.length = pre.length + 2 + post.length := by rw [h]; simp; omega
  obtain ⟨p, x, n, hp, hx⟩ := he
  have hl1 : (pre ++ [92]).length = pre.length + 1 := by simp
  have hl2 : (((pre ++ [92, 34]).length : Nat) : Int) = ((pre.length + 1 : Nat) : Int) + 1 := by simp; omega
  rw [hl2] at hr
  rw [hl1] at hr' ⊢
  have hpl : pre.length = p.length + 1 + 2 * n := by rw [hp]; simp; omega
  have hw : wrap64 (((pre.length + 1 : Nat) : Int) - 1) = (p.length : Int) + ((2 * n + 1 : Nat) : Int) := by rw [wr (by omega) (by omega)]; omega
  have g := (l4_goes hT p [] x hx (out ++ [34]) (pre.length + 1) (by omega) (2 * n + 1) (by omega) ⟨34 :: post, by rw [h, hp, List.replicate_succ']; simp⟩ r).1 ⟨n + 1, by omega⟩ hr
  refine Ev.step (fun k => ?_) g
  simp (disch := omega) only [pretty_spec.l3, if_pos, hr', Option.bind_some, hw, if_true]
theorem l3_inside : ∀ (l : List Int), IsB l → ∀ (pre post : List Int), Even pre → T = pre ++ quo l ++ 34 :: post → ∀ (out : List Int), out.length + (quo l).length ≤ 90000 → ∀ (r : List Int),
    Ev (fun k => pretty_spec.l0 k T (out ++ quo l ++ [34]) (((pre ++ quo l).length : Int) + 1)) r → Ev (fun k => pretty_spec.l3 k T out (pre.length : Int)) r
  | [], _, pre, post, he, h, out, ho, r, hr => by
    simp only [quo, List.flatMap_nil, List.append_nil] at *
    exact l3_last hT pre post he h out (by simp at ho; omega) r hr
  | c :: l, hb, pre, post, he, h, out, ho, r, hr => by
    rw [isB_cons] at hb
    have e : quo (c :: l) = qu c ++ quo l := rfl
    rw [e] at h hr ho
    rw [List.length_append] at ho
    have ih := fun (he' : Even (pre ++ qu c)) => l3_inside l hb.2 (pre ++ qu c) post he' (by rw [h]; simp) (out ++ qu c) (by rw [List.length_append]; omega) r (by simpa only [List.append_assoc] using hr)
    have one : ∀ (p q : List Int) (b : Int) (o : List Int), b ≠ 34 → T = p ++ b :: q → o.length ≤ 100000 → Ev (fun k => pretty_spec.l3 k T (o ++ [b]) ((p ++ [b]).length : Int)) r → Ev (fun k => pretty_spec.l3 k T o (p.length : Int)) r := fun p q b o hb h ho hr => l3_byte hT p q b hb h o ho r hr
    have key : ∀ u : List Int, qu c = u → (∀ o : List Int, True) → True := fun _ _ _ => trivial
    rcases qu_cases c hb.1.1 hb.1.2 with ⟨x, hq, hx, hx34, _⟩ | hq | hq | ⟨a, b, hq, ha⟩ | ⟨hq, hc, hc34⟩
    · rw [hq] at ih h ho
      have ih := ih ⟨pre ++ [92], x, 0, by simp, hx⟩
      refine one pre (x :: quo l ++ 34 :: post) 92 out (by decide) (by rw [h]; simp) (by omega) (one (pre ++ [92]) (quo l ++ 34 :: post) x (out ++ [92]) hx34 (by rw [h]; simp) (by simp; omega) ?_)
      simpa only [List.append_assoc, List.cons_append, List.nil_append] using ih
    · rw [hq] at ih h ho
      have ih := ih ⟨pre ++ [92], 34, 0, by simp, by decide⟩
      refine one pre (34 :: quo l ++ 34 :: post) 92 out (by decide) (by rw [h]; simp) (by omega) (l3_mark hT pre (quo l ++ 34 :: post) he (by rw [h]; simp) (out ++ [92]) (by simp; omega) r ?_)
      simpa only [List.append_assoc, List.cons_append, List.nil_append] using ih
    · rw [hq] at ih h ho
      have ih := ih (by
        obtain ⟨p, y, n, hp, hy⟩ := he
        exact ⟨p, y, n + 1, by rw [hp, show 2 * (n + 1) = 2 * n + 1 + 1 from by omega, List.replicate_succ', List.replicate_succ']; simp, hy⟩)
      refine one pre (92 :: quo l ++ 34 :: post) 92 out (by decide) (by rw [h]; simp) (by omega) (one (pre ++ [92]) (quo l ++ 34 :: post) 92 (out ++ [92]) (by decide) (by rw [h]; simp) (by simp; omega) ?_)
      simpa only [List.append_assoc, List.cons_append, List.nil_append] using ih
    · rw [hq] at ih h ho
      have ih := ih ⟨pre ++ [92, 117, 48, 48, a], b, 0, by simp, by omega⟩
      refine one pre (117 :: 48 :: 48 :: a :: b :: quo l ++ 34 :: post) 92 out (by decide) (by rw [h]; simp) (by omega) (one (pre ++ [92]) (48 :: 48 :: a :: b :: quo l ++ 34 :: post) 117 (out ++ [92]) (by decide) (by rw [h]; simp) (by simp; omega) (one (pre ++ [92] ++ [117]) (48 :: a :: b :: quo l ++ 34 :: post) 48 (out ++ [92] ++ [117]) (by decide) (by rw [h]; simp) (by simp; omega) (one (pre ++ [92] ++ [117] ++ [48]) (a :: b :: quo l ++ 34 :: post) 48 (out ++ [92] ++ [117] ++ [48]) (by decide) (by rw [h]; simp) (by simp; omega) (one (pre ++ [92] ++ [117] ++ [48] ++ [48]) (b :: quo l ++ 34 :: post) a (out ++ [92] ++ [117] ++ [48] ++ [48]) (by omega) (by rw [h]; simp) (by simp; omega) (one (pre ++ [92] ++ [117] ++ [48] ++ [48] ++ [a]) (quo l ++ 34 :: post) b (out ++ [92] ++ [117] ++ [48] ++ [48] ++ [a]) (by omega) (by rw [h]; simp) (by simp; omega) ?_)))))
      simpa only [List.append_assoc, List.cons_append, List.nil_append] using ih
    · rw [hq] at ih h ho
      have ih := ih ⟨pre, c, 0, by simp, hc⟩
      refine one pre (quo l ++ 34 :: post) c out hc34 (by rw [h]; simp) (by omega) ?_
      simpa only [List.append_assoc, List.cons_append, List.nil_append] using ih

def bl (A : List Int) : List Int := A.map fun b => if b = 9 then 9 else 32
/-- A comment's line. -/
theorem l1_goes : ∀ (A pre post : List Int), (∀ b ∈ A, b ≠ 10 ∧ b ≠ 13) → T = pre ++ A ++ post → (post = [] ∨ ∃ q, post = 10 :: q) → ∀ (out : List Int), out.length + A.length ≤ 90000 → ∀ r,
    Ev (fun k => pretty_spec.l0 k T (out ++ bl A ++ (if post = [] then [] else [10])) (((pre ++ A).length : Int) + 1)) r → Ev (fun k => pretty_spec.l1 k T out (pre.length : Int)) r
  | [], pre, post, hA, h, hp, out, ho, r, hr => by
    have hw : wrap64 ((pre.length : Int) + 1) = (pre.length : Int) + 1 := wr (by simp at h; rw [h] at hT; simp at hT; omega) (by simp at h; rw [h] at hT; simp at hT; omega)
    simp only [bl, List.map_nil, List.append_nil] at *
    rcases hp with rfl | ⟨q, rfl⟩
    · have hl : T.length = pre.length := by rw [h]; simp
      simp only [if_true, List.append_nil] at hr
      exact Ev.step (fun k => by simp (disch := omega) only [pretty_spec.l1, if_neg, hw]) hr
    · have hl : T.length = pre.length + 1 + q.length := by rw [h]; simp; omega
      simp only [if_neg (List.cons_ne_nil (10 : Int) q)] at hr
      have hb : rd T (pre.length : Int) = 10 := rd_at h rfl
      simp only [List.length_nil] at ho
      exact Ev.step (fun k => by simp (disch := omega) only [pretty_spec.l1, if_pos, hb, if_true, hw]) hr
  | b :: A, pre, post, hA, h, hp, out, ho, r, hr => by
    have hb := hA b (by simp)
    have hl : T.length = pre.length + 1 + A.length + post.length := by rw [h]; simp; omega
    have hw : wrap64 ((pre.length : Int) + 1) = ((pre ++ [b]).length : Int) := by rw [wr (by omega) (by omega)]; simp
    have hr' : rd T (pre.length : Int) = b := rd_at (q := A ++ post) (by rw [h]; simp) rfl
    simp only [List.length_cons] at ho
    have ih := l1_goes A (pre ++ [b]) post (fun x hx => hA x (by simp [hx])) (by rw [h]; simp) hp (out ++ [if b = 9 then 9 else 32]) (by simp; omega) r (by simpa only [bl, List.map_cons, List.append_assoc, List.cons_append, List.nil_append] using hr)
    refine Ev.step (fun k => ?_) ih
    by_cases h9 : b = 9
    · simp (disch := omega) only [pretty_spec.l1, if_pos, hr', if_neg hb.1, if_pos h9, hw]
      rw [h9]
    · simp (disch := omega) only [pretty_spec.l1, if_pos, hr', if_neg hb.1, if_neg h9, if_neg hb.2, hw]
end
theorem spec_goes (A S : List Int) (hA : ∀ b ∈ A, b ≠ 10 ∧ b ≠ 13) (hS : IsB S) (hl : A.length + (quo S).length ≤ 5000) :
    Ev (fun k => pretty_spec.f k ([47, 47] ++ A ++ [10] ++ ([34] ++ quo S ++ [34]) ++ [47, 47] ++ A) []) ([32, 32] ++ bl A ++ [10] ++ ([34] ++ quo S ++ [34]) ++ [32, 32] ++ bl A) := by
  obtain ⟨T, hTe⟩ : ∃ T, T = [47, 47] ++ A ++ [10] ++ ([34] ++ quo S ++ [34]) ++ [47, 47] ++ A := ⟨_, rfl⟩
  rw [← hTe]
  have hn : T.length = 2 * A.length + (quo S).length + 7 := by rw [hTe]; simp; omega
  have hT : T.length ≤ 100000 := by omega
  have hbl : (bl A).length = A.length := by simp [bl]
  have w1 : wrap64 ((T.length : Int) - 1) = (T.length : Int) - 1 := wr (by omega) (by omega)
  -- a comment begins
  have com : ∀ (pre q out : List Int) r, T = pre ++ 47 :: 47 :: q → out.length ≤ 50000 → Ev (fun k => pretty_spec.l1 k T (out ++ [32, 32]) ((pre ++ [47, 47]).length : Int)) r → Ev (fun k => pretty_spec.l0 k T out (pre.length : Int)) r := by
    intro pre q out r h ho hr
    have hl2 : T.length = pre.length + 2 + q.length := by rw [h]; simp; omega
    have hw : wrap64 ((pre.length : Int) + 1) = (pre.length : Int) + 1 := wr (by omega) (by omega)
    have hw2 : wrap64 ((pre.length : Int) + 2) = ((pre ++ [47, 47]).length : Int) := by rw [wr (by omega) (by omega)]; simp
    have c1 : (pre.length : Int) < (T.length : Int) := by omega
    have c2 : 0 ≤ (pre.length : Int) := by omega
    have c3 : (pre.length : Int) < (T.length : Int) - 1 := by omega
    have c4 : 0 ≤ (pre.length : Int) + 1 := by omega
    have c5 : (pre.length : Int) + 1 < (T.length : Int) := by omega
    have c6 : out.length + (0 + 1 + 1) < 140737488355328 := by omega
    have h1 : rd T (pre.length : Int) = 47 := rd_at h rfl
    have h2 : rd T ((pre.length : Int) + 1) = 47 := rd_at (p := pre ++ [47]) (q := q) (by rw [h]; simp) (by simp)
    refine Ev.step (fun k => ?_) hr
    simp only [pretty_spec.l0, if_pos c1, if_pos c2, h1, w1, if_pos c3, hw, if_pos c4, if_pos c5, h2, hw2, if_true, Option.bind_some, List.length_cons, List.length_nil, if_pos c6]
  -- the second comment, and the end
  have last : ∀ out : List Int, out.length ≤ 50000 → Ev (fun k => pretty_spec.l0 k T out (([47, 47] ++ A ++ [10] ++ ([34] ++ quo S ++ [34])).length : Int)) (out ++ [32, 32] ++ bl A) := by
    intro out ho
    have h1 : T = ([47, 47] ++ A ++ [10] ++ ([34] ++ quo S ++ [34])) ++ 47 :: 47 :: A := by rw [hTe]; simp only [List.append_assoc, List.cons_append, List.nil_append]
    have h2 : T = (([47, 47] ++ A ++ [10] ++ ([34] ++ quo S ++ [34])) ++ [47, 47]) ++ A ++ [] := by rw [hTe]; simp only [List.append_assoc, List.cons_append, List.nil_append, List.append_nil]
    refine com ([47, 47] ++ A ++ [10] ++ ([34] ++ quo S ++ [34])) A out _ h1 ho (l1_goes hT A (([47, 47] ++ A ++ [10] ++ ([34] ++ quo S ++ [34])) ++ [47, 47]) [] hA h2 (.inl rfl) (out ++ [32, 32]) (by simp only [List.length_append, List.length_cons, List.length_nil]; omega) _ ?_)
    simp only [if_true, List.append_nil]
    refine ev_one fun k => ?_
    have : ¬ (((([47, 47] ++ A ++ [10] ++ ([34] ++ quo S ++ [34]) ++ [47, 47] ++ A).length : Nat) : Int) + 1 < (T.length : Int)) := by rw [← hTe]; omega
    simp only [pretty_spec.l0, if_neg this]
  -- the string
  have str : ∀ out : List Int, out.length ≤ 20000 → Ev (fun k => pretty_spec.l0 k T out (([47, 47] ++ A ++ [10]).length : Int)) (out ++ [34] ++ quo S ++ [34] ++ [32, 32] ++ bl A) := by
    intro out ho
    have h1 : rd T (([47, 47] ++ A ++ [10]).length : Int) = 34 := rd_at (q := quo S ++ [34] ++ [47, 47] ++ A) (by rw [hTe]; simp) rfl
    have hp : ([47, 47] ++ A ++ [10]).length = A.length + 3 := by simp
    have hp2 : ((([47, 47] ++ A ++ [10]).length : Nat) : Int) + 1 = (([47, 47] ++ A ++ [10] ++ [34]).length : Int) := by simp only [List.length_append, List.length_cons, List.length_nil]; omega
    have hw : wrap64 ((([47, 47] ++ A ++ [10]).length : Int) + 1) = (([47, 47] ++ A ++ [10] ++ [34]).length : Int) := by rw [wr (by omega) (by omega), hp2]
    have g := l3_inside hT S hS ([47, 47] ++ A ++ [10] ++ [34]) ([47, 47] ++ A) ⟨[47, 47] ++ A ++ [10], 34, 0, by simp, by decide⟩ (by rw [hTe]; simp) (out ++ [34]) (by simp; omega) (out ++ [34] ++ quo S ++ [34] ++ [32, 32] ++ bl A) (by
      have e : (((([47, 47] ++ A ++ [10] ++ [34]) ++ quo S).length : Nat) : Int) + 1 = (([47, 47] ++ A ++ [10] ++ ([34] ++ quo S ++ [34])).length : Int) := by simp; omega
      rw [e]
      exact last _ (by simp; omega))
    refine Ev.step (f := fun k => pretty_spec.j4 k T out (([47, 47] ++ A ++ [10]).length : Int)) (fun k => ?_) (Ev.step (fun k => ?_) g)
    · simp (disch := omega) only [pretty_spec.l0, if_pos, h1]
      rfl
    · simp (disch := omega) only [pretty_spec.j4, if_pos, h1, hw, if_true, Option.bind_some]
  have first : Ev (fun k => pretty_spec.l0 k T [] ((([] : List Int).length : Nat) : Int)) ([32, 32] ++ bl A ++ [10] ++ ([34] ++ quo S ++ [34]) ++ [32, 32] ++ bl A) := by
    have h1 : T = [] ++ 47 :: 47 :: (A ++ 10 :: ([34] ++ quo S ++ [34] ++ [47, 47] ++ A)) := by rw [hTe]; simp only [List.append_assoc, List.cons_append, List.nil_append]
    have h2 : T = ([] ++ [47, 47]) ++ A ++ 10 :: ([34] ++ quo S ++ [34] ++ [47, 47] ++ A) := by rw [hTe]; simp only [List.append_assoc, List.cons_append, List.nil_append]
    refine com [] (A ++ 10 :: ([34] ++ quo S ++ [34] ++ [47, 47] ++ A)) [] _ h1 (by simp only [List.length_nil]; omega) (l1_goes hT A ([] ++ [47, 47]) (10 :: ([34] ++ quo S ++ [34] ++ [47, 47] ++ A)) hA h2 (.inr ⟨_, rfl⟩) ([] ++ [32, 32]) (by simp only [List.length_append, List.length_cons, List.length_nil]; omega) _ ?_)
    rw [if_neg (List.cons_ne_nil _ _)]
    have e : ((([] : List Int) ++ [47, 47] ++ A).length : Int) + 1 = (([47, 47] ++ A ++ [10]).length : Int) := by simp
    rw [e]
    have := str ([] ++ [32, 32] ++ bl A ++ [10]) (by simp; omega)
    simpa only [List.append_assoc, List.nil_append, List.cons_append] using this
  unfold pretty_spec.f
  refine Ev.congr (fun k => ?_) first
  rw [if_pos (by simp)]
  rfl
theorem blanks_ev (s : ByteArray) (hs : s.size ≤ 100000) (hb : ∀ b ∈ bytesOf s, b = 9 ∨ b = 32) : ∀ (d i : Nat), i + d = s.size → Ev (fun k => laws_prBlanksAlone.l0 k s i) true
  | 0, i, hi => ev_one fun k => by simp (disch := omega) only [laws_prBlanksAlone.l0, if_neg]
  | d + 1, i, hi => by
    have hw : wrap64 ((i : Int) + 1) = ((i + 1 : Nat) : Int) := by rw [wr (by omega) (by omega)]; omega
    have hlt : i < (bytesOf s).length := by rw [bytesOf_length]; omega
    have hbi : bt s i = 9 ∨ bt s i = 32 := by
      rw [bt_nat, List.getD_eq_getElem?_getD, List.getElem?_eq_getElem hlt]
      exact hb _ (List.getElem_mem hlt)
    have hB : spec_Blank.f (bt s i) = some true := by rcases hbi with h | h <;> rw [h] <;> rfl
    refine Ev.step (fun k => ?_) (blanks_ev s hs hb d (i + 1) (by omega))
    simp (disch := omega) only [laws_prBlanksAlone.l0, if_pos, hB, Option.bind_some, if_true, hw]
theorem law_l0 (s a q : ByteArray) (ha : a.size ≤ 2147483647) (hs : s.size ≤ 2147483647) (hq : bytesOf q = [34] ++ quo (bytesOf s) ++ [34]) :
    ∀ (d i : Nat), i + d = a.size → (∀ b ∈ (bytesOf a).take i, b ≠ 10 ∧ b ≠ 13) → Ev (fun k => laws_FnPrSpecInside.l0 k s a q i) true
  | 0, i, hi, hA => by
    have hqs : q.size ≤ 6 * s.size + 2 := by
      have := quo_len (isB_bytesOf s)
      rw [bytesOf_length] at this
      rw [size_of hq]; simp; omega
    have hw : wrap64 ((q.size : Int) + (a.size : Int)) = (q.size : Int) + a.size := wr (by omega) (by omega)
    have j2t : Ev (fun k => laws_FnPrSpecInside.j2 k a q true) true := ev_one fun k => by simp [laws_FnPrSpecInside.j2]
    by_cases hc : (q.size : Int) + a.size > 4096
    · exact Ev.step (fun k => by simp (disch := omega) only [laws_FnPrSpecInside.l0, if_neg, hw, if_pos hc]) j2t
    have k1 : 2 + a.size ≤ 9223372036854775807 := by omega
    have k2 : 2 + a.size + 1 ≤ 9223372036854775807 := by omega
    have k3 : 2 + a.size + 1 + q.size ≤ 9223372036854775807 := by omega
    have k4 : 2 + a.size + 1 + q.size + 2 ≤ 9223372036854775807 := by omega
    have k5 : 2 + a.size + 1 + q.size + 2 + a.size ≤ 9223372036854775807 := by omega
    have n5 : 1 + q.size ≤ 9223372036854775807 := by omega
    have w2 : wrap64 (2 + (a.size : Int)) = ((2 + a.size : Nat) : Int) := by rw [wr (by omega) (by omega)]; omega
    have w3 : wrap64 (3 + (a.size : Int)) = 3 + (a.size : Int) := wr (by omega) (by omega)
    have w4 : wrap64 (3 + (a.size : Int) + (q.size : Int)) = ((3 + a.size + q.size : Nat) : Int) := by rw [wr (by omega) (by omega)]; omega
    have hi' : ¬ ((i : Int) < (a.size : Int)) := by omega
    obtain ⟨b, hu, _⟩ := utf_ev (s := s) (by omega)
    refine Ev.step (f := fun k => (spec_UTF8.f k s).bind fun b => laws_FnPrSpecInside.j2 k a q (!b)) (fun k => by simp only [laws_FnPrSpecInside.l0, if_neg hi', hw, if_neg hc]) (Ev.bind (f := fun k b => laws_FnPrSpecInside.j2 k a q (!b)) hu ?_)
    cases b with
    | false => exact j2t
    | true =>
      have hA' : ∀ b ∈ bytesOf a, b ≠ 10 ∧ b ≠ 13 := by
        rw [List.take_of_length_le (by rw [bytesOf_length]; omega)] at hA
        exact hA
      have hqlen : q.size = (quo (bytesOf s)).length + 2 := by rw [size_of hq]; simp
      have hal := bytesOf_length a
      have hblA : (bl (bytesOf a)).length = a.size := by simp [bl, hal]
      obtain ⟨X, hX⟩ : ∃ X, X = ((((((⟨#[47, 47]⟩ : ByteArray) ++ a) ++ (⟨#[10]⟩ : ByteArray)) ++ q) ++ (⟨#[47, 47]⟩ : ByteArray)) ++ a) := ⟨_, rfl⟩
      have hXb : bytesOf X = [47, 47] ++ bytesOf a ++ [10] ++ ([34] ++ quo (bytesOf s) ++ [34]) ++ [47, 47] ++ bytesOf a := by
        rw [hX, bytesOf_append, bytesOf_append, bytesOf_append, bytesOf_append, bytesOf_append, hq]; rfl
      have hXs : X.size = 2 * a.size + q.size + 5 := by rw [size_of hXb]; simp; omega
      have g := spec_goes (bytesOf a) (bytesOf s) hA' (isB_bytesOf s) (by omega)
      rw [← hXb] at g
      obtain ⟨O, hO⟩ : ∃ O, O = [32, 32] ++ bl (bytesOf a) ++ [10] ++ ([34] ++ quo (bytesOf s) ++ [34]) ++ [32, 32] ++ bl (bytesOf a) := ⟨_, rfl⟩
      rw [← hO] at g
      have hbB : IsB (bl (bytesOf a)) := by
        intro y hy
        simp only [bl, List.mem_map] at hy
        obtain ⟨b, _, rfl⟩ := hy
        split <;> omega
      have hOB : IsB O := by
        rw [hO]
        have h34 : IsB [34] := by simp [IsB]
        have h32 : IsB [32, 32] := by simp [IsB]
        have h10 : IsB [10] := by simp [IsB]
        exact (((((h32.append hbB).append h10).append ((h34.append (quo_isB (isB_bytesOf s))).append h34)).append h32).append hbB)
      have hOs : (strOfNums O).size = X.size := by rw [strOfNums_size, hXs, hO]; simp; omega
      have e1 : Ev (fun k => impl_PrSpec.f k X) (strOfNums O) := by
        unfold impl_PrSpec.f pretty_Spec.f
        simp only [if_pos (show X.size ≤ 140737488351232 by omega)]
        exact Ev.bind (f := fun _ r => some (strOfNums r)) (Ev.bind (f := fun _ r => some r) g (Ev.now _)) (Ev.now _)
      have x1 : (strOfNums O).extract (2 + a.size) (3 + a.size + q.size) = (⟨#[10]⟩ : ByteArray) ++ q := by
        apply bytesOf_inj
        rw [bytesOf_extract, bytesOf_str hOB, bytesOf_append, hq]
        have e : O = ([32, 32] ++ bl (bytesOf a)) ++ ([10] ++ ([34] ++ quo (bytesOf s) ++ [34])) ++ ([32, 32] ++ bl (bytesOf a)) := by rw [hO]; simp
        rw [e, List.take_left' (by simp; omega), List.drop_left' (by simp; omega)]
        rfl
      have x2 : bytesOf ((strOfNums O).extract 0 (2 + a.size)) = [32, 32] ++ bl (bytesOf a) := by
        rw [bytesOf_extract, bytesOf_str hOB]
        have e : O = ([32, 32] ++ bl (bytesOf a)) ++ ([10] ++ ([34] ++ quo (bytesOf s) ++ [34]) ++ ([32, 32] ++ bl (bytesOf a))) := by rw [hO]; simp
        rw [e, List.take_left' (by simp; omega)]; rfl
      have x3 : bytesOf ((strOfNums O).extract (3 + a.size + q.size) (strOfNums O).size) = [32, 32] ++ bl (bytesOf a) := by
        rw [bytesOf_extract, bytesOf_str hOB, List.take_of_length_le (by rw [strOfNums_size]; exact Nat.le_refl _)]
        have e : O = ([32, 32] ++ bl (bytesOf a) ++ ([10] ++ ([34] ++ quo (bytesOf s) ++ [34]))) ++ ([32, 32] ++ bl (bytesOf a)) := by rw [hO]; simp
        rw [e, List.drop_left' (by simp; omega)]
      have hblank : ∀ b ∈ [32, 32] ++ bl (bytesOf a), b = 9 ∨ b = 32 := by
        intro b hb
        rcases List.mem_append.1 hb with h | h
        · simp at h; exact .inr h
        · simp only [bl, List.mem_map] at h
          obtain ⟨c, _, rfl⟩ := h
          split
          · exact .inl rfl
          · exact .inr rfl
      have b1 := blanks_ev _ (by rw [size_of x2]; simp; omega) (by rw [x2]; exact hblank) _ 0 (Nat.zero_add _)
      have b2 := blanks_ev _ (by rw [size_of x3]; simp; omega) (by rw [x3]; exact hblank) _ 0 (Nat.zero_add _)
      have fin : Ev (fun k => (laws_prBlanksAlone.f k ((strOfNums O).extract 0 (2 + a.size))).bind fun t495 => (if t495 = true then ((laws_prBlanksAlone.f k ((strOfNums O).extract (3 + a.size + q.size) (strOfNums O).size)).bind fun t496 => (some t496)) else (some false))) true :=
        Ev.bind (f := fun k t495 => (if t495 = true then ((laws_prBlanksAlone.f k ((strOfNums O).extract (3 + a.size + q.size) (strOfNums O).size)).bind fun t496 => (some t496)) else (some false))) b1 (by simp only [if_true]; exact Ev.bind (f := fun _ t => some t) b2 (Ev.now _))
      refine Ev.step (f := fun k => (impl_PrSpec.f k X).bind fun t494 => (if (t494.size : Int) = (X.size : Int) then (if 0 ≤ ((2 + a.size : Nat) : Int) then (if ((2 + a.size : Nat) : Int) ≤ ((3 + a.size + q.size : Nat) : Int) then (if ((3 + a.size + q.size : Nat) : Int) ≤ (t494.size : Int) then (if 1 + q.size ≤ 9223372036854775807 then (if (t494.extract (2 + a.size) (3 + a.size + q.size)).toList = ((⟨#[10]⟩ : ByteArray) ++ q).toList then (if ((2 + a.size : Nat) : Int) ≤ (t494.size : Int) then ((laws_prBlanksAlone.f k (t494.extract 0 (2 + a.size))).bind fun t495 => (if t495 = true then (if 0 ≤ ((3 + a.size + q.size : Nat) : Int) then ((laws_prBlanksAlone.f k (t494.extract (3 + a.size + q.size) t494.size)).bind fun t496 => (some t496)) else (none)) else (some false))) else (none)) else (some false)) else (none)) else (none)) else (none)) else (none)) else (some false))) (fun k => ?_) (Ev.bind (f := fun k t494 => (if (t494.size : Int) = (X.size : Int) then (if 0 ≤ ((2 + a.size : Nat) : Int) then (if ((2 + a.size : Nat) : Int) ≤ ((3 + a.size + q.size : Nat) : Int) then (if ((3 + a.size + q.size : Nat) : Int) ≤ (t494.size : Int) then (if 1 + q.size ≤ 9223372036854775807 then (if (t494.extract (2 + a.size) (3 + a.size + q.size)).toList = ((⟨#[10]⟩ : ByteArray) ++ q).toList then (if ((2 + a.size : Nat) : Int) ≤ (t494.size : Int) then ((laws_prBlanksAlone.f k (t494.extract 0 (2 + a.size))).bind fun t495 => (if t495 = true then (if 0 ≤ ((3 + a.size + q.size : Nat) : Int) then ((laws_prBlanksAlone.f k (t494.extract (3 + a.size + q.size) t494.size)).bind fun t496 => (some t496)) else (none)) else (some false))) else (none)) else (some false)) else (none)) else (none)) else (none)) else (none)) else (some false))) e1 ?_)
      · simp only [laws_FnPrSpecInside.j2, Bool.not_true, Bool.false_eq_true, if_false, if_pos k1, if_pos k2, if_pos k3, if_pos k4, if_pos k5, ← hX, w2, w3, w4, Int.toNat_natCast]
      · have n1 : ((X.size : Nat) : Int) = (X.size : Int) := rfl
        have n2 : 0 ≤ ((2 + a.size : Nat) : Int) := by omega
        have n3 : ((2 + a.size : Nat) : Int) ≤ ((3 + a.size + q.size : Nat) : Int) := by omega
        have n4 : ((3 + a.size + q.size : Nat) : Int) ≤ (X.size : Int) := by omega
        have n6 : ((2 + a.size : Nat) : Int) ≤ (X.size : Int) := by omega
        have n7 : 0 ≤ ((3 + a.size + q.size : Nat) : Int) := by omega
        rw [hOs] at fin
        simp only [hOs, if_true, if_pos n2, if_pos n3, if_pos n4, if_pos n5, x1, if_pos n6, if_pos n7]
        exact fin
  | d + 1, i, hi, hA => by
    have hw : wrap64 ((i : Int) + 1) = ((i + 1 : Nat) : Int) := by rw [wr (by omega) (by omega)]; omega
    have hlt : i < (bytesOf a).length := by rw [bytesOf_length]; omega
    by_cases c1 : bt a i = 10
    · exact ev_one fun k => by simp (disch := omega) only [laws_FnPrSpecInside.l0, if_pos]
    by_cases c2 : bt a i = 13
    · exact ev_one fun k => by simp (disch := omega) only [laws_FnPrSpecInside.l0, if_pos, if_neg]
    refine Ev.step (fun k => ?_) (law_l0 s a q ha hs hq d (i + 1) (by omega) ?_)
    · simp (disch := omega) only [laws_FnPrSpecInside.l0, if_pos, if_neg, hw]
    · intro b hb
      rw [List.take_succ_eq_append_getElem hlt] at hb
      rcases List.mem_append.1 hb with h | h
      · exact hA b h
      · simp only [List.mem_singleton] at h
        subst h
        have e : bt a i = (bytesOf a)[i] := by rw [bt_nat, List.getD_eq_getElem?_getD, List.getElem?_eq_getElem hlt]; rfl
        rw [← e]
        exact ⟨c1, c2⟩
theorem FnPrSpecInside : laws_FnPrSpecInside.Pure := by
  intro s a hs ha
  have j0t : Ev (fun k => laws_FnPrSpecInside.j0 k s a true) true := ev_one fun k => by simp [laws_FnPrSpecInside.j0]
  unfold laws_FnPrSpecInside.f
  by_cases c0 : (s.size : Int) > 2147483647
  · simp only [if_pos c0]; exact j0t.rounds
  simp only [if_neg c0]
  by_cases c1 : (a.size : Int) > 2147483647
  · simp only [decide_eq_true c1]; exact j0t.rounds
  simp only [decide_eq_false c1]
  have hB : IsB ([34] ++ quo (bytesOf s) ++ [34]) := by
    have h34 : IsB [34] := by simp [IsB]
    exact (h34.append (quo_isB (isB_bytesOf s))).append h34
  refine Ev.rounds (Ev.step (f := fun k => (spec_Quote.f k s).bind fun q => laws_FnPrSpecInside.l0 k s a q 0) (fun k => by simp only [laws_FnPrSpecInside.j0, Bool.false_eq_true, if_false]) (Ev.bind (f := fun k q => laws_FnPrSpecInside.l0 k s a q 0) (quote_ev s (by omega)) ?_))
  exact law_l0 s a _ (by omega) (by omega) (bytesOf_str hB) a.size 0 (by omega) (by simp)
end Go.Proofs.Ytdndddembndnhaa.Pure
