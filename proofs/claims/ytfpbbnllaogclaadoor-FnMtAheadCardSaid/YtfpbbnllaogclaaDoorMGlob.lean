/- Patterns with stars and question marks: plain laws, and what the matcher computes. -/
import Derived.Test.YtfpbbnllaogclaaDoorJCh
import Derived.Test.YtfpbbnllaogclaaDoorJLast
import Derived.Test.YtfpbbnllaogclaaDoorPAx12
import Derived.Test.YtfpbbnllaogclaaDoorPAx13
namespace Go.Proofs.YtfpbbnllaogclaaDoor.J
open Go.RowKit Go.Proofs.YtfpbbnllaogclaaDoor.PA Go.Proofs.YtfpbbnllaogclaaDoorW.PrintWords Go.Proofs.YtfpbbnllaogclaaDoorW.PrintLast
set_option linter.unusedSimpArgs false
set_option linter.unusedVariables false
inductive Tm
  | star | one | ch (r : Int)
inductive GM : List Tm → List Int → Prop
  | nil : GM [] []
  | star {ps : List Tm} {pre cs : List Int} : GM ps cs → GM (.star :: ps) (pre ++ cs)
  | one {ps : List Tm} {c : Int} {cs : List Int} : GM ps cs → GM (.one :: ps) (c :: cs)
  | ch {ps : List Tm} {r : Int} {cs : List Int} : GM ps cs → GM (.ch r :: ps) (r :: cs)
theorem gm_nil {cs : List Int} : GM [] cs ↔ cs = [] := ⟨fun h => by cases h; rfl, fun h => h ▸ .nil⟩
theorem gm_star {ps : List Tm} {cs : List Int} : GM (.star :: ps) cs ↔ ∃ a b, cs = a ++ b ∧ GM ps b :=
  ⟨fun h => by cases h with | star h => exact ⟨_, _, rfl, h⟩, fun ⟨a, b, e, h⟩ => e ▸ .star h⟩
theorem gm_one {ps : List Tm} {cs : List Int} : GM (.one :: ps) cs ↔ ∃ c t, cs = c :: t ∧ GM ps t :=
  ⟨fun h => by cases h with | one h => exact ⟨_, _, rfl, h⟩, fun ⟨a, b, e, h⟩ => e ▸ .one h⟩
theorem gm_ch {ps : List Tm} {r : Int} {cs : List Int} : GM (.ch r :: ps) cs ↔ ∃ t, cs = r :: t ∧ GM ps t :=
  ⟨fun h => by cases h with | ch h => exact ⟨_, rfl, h⟩, fun ⟨b, e, h⟩ => e ▸ .ch h⟩
theorem gm_all (cs : List Int) : GM [.star] cs := gm_star.2 ⟨cs, [], by simp, .nil⟩
theorem gm_star_nil {ps : List Tm} : GM (.star :: ps) [] ↔ GM ps [] := by
  rw [gm_star]
  constructor
  · rintro ⟨a, b, e, h⟩
    have := List.append_eq_nil_iff.1 e.symm
    rw [this.2] at h
    exact h
  · exact fun h => ⟨[], [], rfl, h⟩
theorem gm_star_cons {ps : List Tm} {c : Int} {cs : List Int} : GM (.star :: ps) (c :: cs) ↔ GM ps (c :: cs) ∨ GM (.star :: ps) cs := by
  rw [gm_star, gm_star]
  constructor
  · rintro ⟨a, b, e, h⟩
    cases a with
    | nil => exact .inl (by rw [e]; exact h)
    | cons x a =>
      simp only [List.cons_append, List.cons.injEq] at e
      exact .inr ⟨a, b, e.2, h⟩
  · rintro (h | ⟨a, b, e, h⟩)
    · exact ⟨[], _, rfl, h⟩
    · exact ⟨c :: a, b, by rw [e]; rfl, h⟩
theorem gm_append {ps qs : List Tm} {cs : List Int} : GM (ps ++ qs) cs ↔ ∃ a b, cs = a ++ b ∧ GM ps a ∧ GM qs b := by
  constructor
  · intro h
    induction ps generalizing cs with
    | nil => exact ⟨[], cs, rfl, .nil, h⟩
    | cons t ps ih =>
      rw [List.cons_append] at h
      cases h with
      | @star _ pre cs h =>
        obtain ⟨a, b, rfl, h1, h2⟩ := ih h
        exact ⟨pre ++ a, b, by rw [List.append_assoc], .star h1, h2⟩
      | one h =>
        obtain ⟨a, b, rfl, h1, h2⟩ := ih h
        exact ⟨_ :: a, b, rfl, .one h1, h2⟩
      | ch h =>
        obtain ⟨a, b, rfl, h1, h2⟩ := ih h
        exact ⟨_ :: a, b, rfl, .ch h1, h2⟩
  · rintro ⟨a, b, rfl, h1, h2⟩
    induction h1 with
    | nil => exact h2
    | star _ ih => rw [List.append_assoc]; exact .star ih
    | one _ ih => exact .one ih
    | ch _ ih => exact .ch ih
theorem gm_two {ps : List Tm} {cs : List Int} : GM (.star :: .star :: ps) cs ↔ GM (.star :: ps) cs := by
  constructor
  · intro h
    obtain ⟨a, b, rfl, h1⟩ := gm_star.1 h
    obtain ⟨a', b', rfl, h2⟩ := gm_star.1 h1
    exact gm_star.2 ⟨a ++ a', b', by rw [List.append_assoc], h2⟩
  · exact fun h => gm_star.2 ⟨[], cs, rfl, h⟩
theorem gm_snoc_one {ps : List Tm} {cs : List Int} {c : Int} : GM (ps ++ [.one]) (cs ++ [c]) ↔ GM ps cs := by
  rw [gm_append]
  constructor
  · rintro ⟨a, b, e, h1, h2⟩
    obtain ⟨x, t, rfl, h⟩ := gm_one.1 h2
    obtain rfl := gm_nil.1 h
    have := List.append_inj' e rfl
    rw [this.1]; exact h1
  · exact fun h => ⟨cs, [c], rfl, h, .one .nil⟩
theorem gm_snoc_ch {ps : List Tm} {cs : List Int} {c r : Int} : GM (ps ++ [.ch r]) (cs ++ [c]) ↔ r = c ∧ GM ps cs := by
  rw [gm_append]
  constructor
  · rintro ⟨a, b, e, h1, h2⟩
    obtain ⟨t, rfl, h⟩ := gm_ch.1 h2
    obtain rfl := gm_nil.1 h
    have := List.append_inj' e rfl
    simp only [List.cons.injEq, and_true] at this
    rw [this.1]; exact ⟨this.2.symm, h1⟩
  · rintro ⟨rfl, h⟩
    exact ⟨cs, [r], rfl, h, .ch .nil⟩
/-- The bytes of one term of a pattern. -/
inductive Pc : List Int → Tm → Prop
  | star : Pc [42] .star
  | one : Pc [63] .one
  | plain {c : List Int} {r : Int} : Ch c r → r ≠ 42 → r ≠ 63 → r ≠ 92 → Pc c (.ch r)
  | esc {c : List Int} {r : Int} : Ch c r → Pc (92 :: c) (.ch r)
inductive Pt : List Int → List Tm → Prop
  | nil : Pt [] []
  | cons {c l : List Int} {t : Tm} {ts : List Tm} : Pc c t → Pt l ts → Pt (c ++ l) (t :: ts)
theorem ch42 : Ch [42] 42 := .one (by omega) (by omega)
theorem ch63 : Ch [63] 63 := .one (by omega) (by omega)
theorem ch92 : Ch [92] 92 := .one (by omega) (by omega)
theorem Pc.len {c : List Int} {t : Tm} (h : Pc c t) : 1 ≤ c.length ∧ c.length ≤ 5 := by
  cases h with
  | star => simp
  | one => simp
  | plain h => have := h.len; omega
  | esc h => have := h.len; simp; omega
theorem Pt.len {l : List Int} {ts : List Tm} (h : Pt l ts) : ts.length ≤ l.length := by
  induction h with
  | nil => exact Nat.le_refl _
  | cons hc _ ih => have := hc.len; rw [List.length_append, List.length_cons]; omega
theorem Pt.append {a b : List Int} {xs ys : List Tm} (h : Pt a xs) (k : Pt b ys) : Pt (a ++ b) (xs ++ ys) := by
  induction h with
  | nil => exact k
  | cons hc _ ih => rw [List.append_assoc]; exact .cons hc ih
theorem Pt.split : ∀ {xs ys : List Tm} {l : List Int}, Pt l (xs ++ ys) → ∃ a b, l = a ++ b ∧ Pt a xs ∧ Pt b ys
  | [], ys, l, h => ⟨[], l, rfl, .nil, h⟩
  | x :: xs, ys, l, h => by
    cases h with
    | @cons c l' _ _ hc ht =>
      obtain ⟨a, b, rfl, ha, hb⟩ := Pt.split ht
      exact ⟨c ++ a, b, by rw [List.append_assoc], .cons hc ha, hb⟩
theorem Pt.snoc {xs : List Tm} {l : List Int} {x : Tm} (h : Pt l (xs ++ [x])) : ∃ a c, l = a ++ c ∧ Pt a xs ∧ Pc c x := by
  obtain ⟨a, b, rfl, ha, hb⟩ := h.split
  cases hb with
  | @cons c l' _ _ hc ht =>
    cases ht
    exact ⟨a, c, by rw [List.append_nil], ha, hc⟩
theorem Pt.one' {c : List Int} {t : Tm} (h : Pc c t) : Pt c [t] := by
  have := Pt.cons h .nil
  rwa [List.append_nil] at this
/-- The last character of a term's bytes. -/
theorem Pc.last {p : List Int} {t : Tm} (h : Pc p t) : ∃ c r e, Ch c r ∧ p = e ++ c ∧
    (e = [] ∧ (t = .star ∧ r = 42 ∨ t = .one ∧ r = 63 ∨ t = .ch r ∧ r ≠ 42 ∧ r ≠ 63 ∧ r ≠ 92) ∨ e = [92] ∧ t = .ch r) := by
  cases h with
  | star => exact ⟨[42], 42, [], ch42, rfl, .inl ⟨rfl, .inl ⟨rfl, rfl⟩⟩⟩
  | one => exact ⟨[63], 63, [], ch63, rfl, .inl ⟨rfl, .inr (.inl ⟨rfl, rfl⟩)⟩⟩
  | plain h h1 h2 h3 => exact ⟨_, _, [], h, rfl, .inl ⟨rfl, .inr (.inr ⟨rfl, h1, h2, h3⟩)⟩⟩
  | esc h => exact ⟨_, _, [92], h, rfl, .inr ⟨rfl, rfl⟩⟩
theorem Ch.lastByte {c : List Int} {r : Int} (h : Ch c r) (hr : r ≠ 92) : ∃ q y, c = q ++ [y] ∧ y ≠ 92 := by
  cases h with
  | one => exact ⟨[], _, rfl, hr⟩
  | two => exact ⟨[_], _, rfl, by omega⟩
  | three => exact ⟨[_, _], _, rfl, by omega⟩
  | four => exact ⟨[_, _, _], _, rfl, by omega⟩
theorem Ch.of92 {c : List Int} (h : Ch c 92) : c = [92] := h.inj ch92
theorem rep_two (n : Nat) : (92 : Int) :: 92 :: List.replicate (2 * n) 92 = List.replicate (2 * (n + 1)) 92 := by
  rw [show 2 * (n + 1) = 2 * n + 1 + 1 by omega]; rfl
/-- Behind the terms of a pattern stands an even number of backslashes. -/
theorem Pt.tail {l : List Int} {ts : List Tm} (h : Pt l ts) : ∃ n p, l = p ++ List.replicate (2 * n) 92 ∧ (p = [] ∨ ∃ q y, p = q ++ [y] ∧ y ≠ 92) := by
  induction h with
  | nil => exact ⟨0, [], rfl, .inl rfl⟩
  | @cons c l t ts hc _ ih =>
    obtain ⟨n, p, rfl, hp⟩ := ih
    rcases hp with rfl | ⟨q, y, rfl, hy⟩
    · rw [List.nil_append]
      cases hc with
      | star => exact ⟨n, [42], rfl, .inr ⟨[], 42, rfl, by decide⟩⟩
      | one => exact ⟨n, [63], rfl, .inr ⟨[], 63, rfl, by decide⟩⟩
      | plain h h1 h2 h3 => exact ⟨n, c, rfl, .inr (h.lastByte h3)⟩
      | @esc c r h =>
        by_cases hr : r = 92
        · subst hr
          rw [h.of92]
          exact ⟨n + 1, [], by rw [List.nil_append, ← rep_two]; rfl, .inl rfl⟩
        · obtain ⟨q, y, rfl, hy⟩ := h.lastByte hr
          exact ⟨n, _, rfl, .inr ⟨92 :: q, y, rfl, hy⟩⟩
    · exact ⟨n, c ++ (q ++ [y]), by simp, .inr ⟨c ++ q, y, by rw [List.append_assoc], hy⟩⟩
theorem first_star {l : List Int} {ts : List Tm} (h : Pt (42 :: l) ts) : ∃ ts', ts = .star :: ts' ∧ Pt l ts' := by
  obtain ⟨z, hz⟩ : ∃ z, z = 42 :: l := ⟨_, rfl⟩
  rw [← hz] at h
  cases h with
  | nil => cases hz
  | @cons c l' t ts hc ht =>
    cases hc with
    | star =>
      simp only [List.cons_append, List.nil_append, List.cons.injEq, true_and] at hz
      exact ⟨_, rfl, hz ▸ ht⟩
    | one => simp at hz
    | plain h h1 h2 h3 =>
      rcases h.parts with ⟨rfl, _, _⟩ | ⟨a, t, rfl, h4, _⟩
      · simp at hz; exact absurd hz.1 h1
      · simp at hz; omega
    | esc h => simp at hz
theorem and1 {m : Int} (h0 : 0 ≤ m) (h1 : m < 4611686018427387904) : Go.bits .and .i64 m 1 = m % 2 := by
  have := bits_mask .i64 62 (by decide) (fun n h0 h1 => by rw [IntKind.wrap_i64]; omega) 1 (by decide) m h0 (by simpa using h1)
  simpa using this
/-! the matcher's cut of what stands behind the last star -/
theorem back_loop {s x : ByteArray} {q : List Int} {y : Int} {m : Nat} {c : List Int} {r : Int} {R : ByteArray × ByteArray × Bool} (hn : x.size ≤ 140737488351232)
    (hx : bytesOf x = q ++ (y :: (List.replicate m 92 ++ c))) (hy : y ≠ 92)
    (hj : Ev (fun k => match_matchTrimSuffix.j3 k s x false true r (if m % 2 = 1 then (c.length : Int) + 1 else c.length) (decide (m % 2 = 1))) R) :
    ∀ (d : Nat) (i : Int), i = (m : Int) - d → 0 ≤ i → Ev (fun k => match_matchTrimSuffix.l1 k s x false true r c.length false i) R
  | 0, i, hi, h0 => by
    obtain rfl : i = m := by omega
    have hz : x.size = q.length + 1 + m + c.length := by rw [← bytesOf_length x, hx]; simp; omega
    have w : wrap64 (wrap64 (wrap64 ((x.size : Int) - c.length) - m) - 1) = q.length := by
      rw [wr (x := (x.size : Int) - c.length) (by omega) (by omega), wr (x := (x.size : Int) - c.length - m) (by omega) (by omega), wr (by omega) (by omega)]; omega
    have c1 : 0 ≤ (q.length : Int) := by omega
    have c2 : (q.length : Int) < x.size := by omega
    have b : bt x q.length = y := by
      have := bt_split (s := x) (p := q) (c := [y]) (q := List.replicate m 92 ++ c) hx 0 (by simp)
      simpa using this
    have c3 : ¬ y = 92 := hy
    have ha := and1 (m := (m : Int)) (by omega) (by omega)
    refine Ev.step (fun k => ?_) hj
    by_cases hm : m % 2 = 1
    · have e : (m : Int) % 2 = 1 := by omega
      have w2 : wrap64 ((c.length : Int) + 1) = (c.length : Int) + 1 := wr (by omega) (by omega)
      simp only [match_matchTrimSuffix.l1, w, if_pos c1, if_pos c2, b, if_neg c3, ha, if_pos e, w2, if_pos hm, decide_eq_true hm]
    · have e : ¬ (m : Int) % 2 = 1 := by omega
      simp only [match_matchTrimSuffix.l1, w, if_pos c1, if_pos c2, b, if_neg c3, ha, if_neg e, if_neg hm, decide_eq_false hm]
  | d + 1, i, hi, h0 => by
    have ih := back_loop hn hx hy hj d (i + 1) (by omega) (by omega)
    have hz : x.size = q.length + 1 + m + c.length := by rw [← bytesOf_length x, hx]; simp; omega
    obtain ⟨j, hjj⟩ : ∃ j : Nat, (q.length : Int) + 1 + m - i - 1 = (q.length : Int) + 1 + j ∧ j < m := ⟨(m - i - 1).toNat, by omega⟩
    have w : wrap64 (wrap64 (wrap64 ((x.size : Int) - c.length) - i) - 1) = (q.length : Int) + 1 + j := by
      rw [wr (x := (x.size : Int) - c.length) (by omega) (by omega), wr (x := (x.size : Int) - c.length - i) (by omega) (by omega), wr (by omega) (by omega)]; omega
    have c1 : 0 ≤ (q.length : Int) + 1 + j := by omega
    have c2 : (q.length : Int) + 1 + j < x.size := by omega
    have b : bt x ((q.length : Int) + 1 + j) = 92 := by
      have := bt_split (s := x) (p := q ++ [y]) (c := List.replicate m 92) (q := c) (by rw [hx]; simp) j (by simp; omega)
      simp only [List.length_append, List.length_cons, List.length_nil] at this
      rw [show ((q.length + (0 + 1) : Nat) : Int) + (j : Int) = (q.length : Int) + 1 + j by omega] at this
      rw [this]
      simp [List.getD_eq_getElem?_getD, List.getElem?_replicate, hjj.2]
    have w2 : wrap64 (i + 1) = i + 1 := wr (by omega) (by omega)
    refine Ev.step (fun k => ?_) ih
    simp only [match_matchTrimSuffix.l1, w, if_pos c1, if_pos c2, b, if_true, w2]
def Trim (cs : List Int) (ts : List Tm) (R : ByteArray × ByteArray × Bool) : Prop :=
  (R.2.2 = false → ¬ GM (.star :: ts) cs) ∧ (R.2.2 = true → ∃ cs2 l2 ts2 cs3, Tx (bytesOf R.1) cs2 ∧ Pt l2 ts2 ∧ bytesOf R.2.1 = 42 :: l2 ∧ cs = cs2 ++ cs3 ∧ ts2.length ≤ ts.length ∧ (GM (.star :: ts) cs ↔ GM (.star :: ts2) cs2))
theorem trim_here {s x : ByteArray} {cs : List Int} {l : List Int} {ts : List Tm} (hs : Tx (bytesOf s) cs) (hp : Pt l ts) (hx : bytesOf x = 42 :: l) : Trim cs ts (s, x, true) :=
  ⟨fun h => (by cases h), fun _ => ⟨cs, l, ts, [], hs, hp, hx, by simp, Nat.le_refl _, Iff.rfl⟩⟩
theorem tx_empty {s : ByteArray} (h : Tx (bytesOf s) []) : s.size = 0 := by
  rw [← bytesOf_length s]
  generalize bytesOf s = z at h
  cases h
  rfl
theorem trim_ev : ∀ (n : Nat) (cs : List Int) (ts : List Tm) (s x : ByteArray) (l : List Int), cs.length = n → s.size ≤ 140737488351232 → x.size ≤ 140737488351232 → Tx (bytesOf s) cs → Pt l ts → bytesOf x = 42 :: l →
    ∃ R, Ev (fun k => match_matchTrimSuffix.l0 k s x false true) R ∧ Trim cs ts R ∧ R.1.size ≤ s.size ∧ R.2.1.size ≤ x.size := by
  intro n
  induction n with
  | zero =>
    intro cs ts s x l hc hns hnx hs hp hx
    obtain rfl := List.eq_nil_of_length_eq_zero hc
    have hz := tx_empty hs
    have c1 : ¬ (s.size : Int) > 0 := by omega
    have e : Ev (fun k => match_matchTrimSuffix.j1 k s x false true false) (s, x, true) := ev_one fun k => by simp only [match_matchTrimSuffix.j1, Bool.false_eq_true, if_false]
    exact ⟨_, Ev.step (fun k => by simp only [match_matchTrimSuffix.l0, if_neg c1]) e, trim_here hs hp hx, Nat.le_refl _, Nat.le_refl _⟩
  | succ n ih =>
    intro cs ts s x l hc hns hnx hs hp hx
    obtain ⟨cs', sc, rfl⟩ : ∃ cs' sc, cs = cs' ++ [sc] := by
      rcases List.eq_nil_or_concat cs with rfl | ⟨a, b, rfl⟩
      · simp at hc
      · exact ⟨a, b, by simp⟩
    obtain ⟨sa, sd, hsb, hsa, hsd⟩ := hs.snoc
    have hdl := hsd.len
    have hsz : s.size = sa.length + sd.length := by rw [← bytesOf_length s, hsb, List.length_append]
    have hxz : x.size = l.length + 1 := by rw [← bytesOf_length x, hx, List.length_cons]
    have c1 : (s.size : Int) > 0 := by omega
    rcases List.eq_nil_or_concat ts with rfl | ⟨ts', t, hts⟩
    · have : l = [] := by
        generalize l = z at hp
        cases hp; rfl
      subst this
      have c2 : ¬ (x.size : Int) > 1 := by simp at hxz; omega
      have e : Ev (fun k => match_matchTrimSuffix.j1 k s x false true false) (s, x, true) := ev_one fun k => by simp only [match_matchTrimSuffix.j1, Bool.false_eq_true, if_false]
      exact ⟨_, Ev.step (fun k => by simp only [match_matchTrimSuffix.l0, if_pos c1, decide_eq_false c2]) e, trim_here hs hp hx, Nat.le_refl _, Nat.le_refl _⟩
    · have hts : ts = ts' ++ [t] := by rw [hts]; simp
      subst hts
      obtain ⟨pl, pb, rfl, hpl, hpb⟩ := hp.snoc
      obtain ⟨c, r, e, hch, rfl, hk⟩ := hpb.last
      have hcl := hch.len
      have hpl0 : Pt (42 :: pl) (.star :: ts') := .cons .star hpl
      obtain ⟨m, p, hm, hpp⟩ := hpl0.tail
      obtain ⟨q, y, rfl, hy⟩ : ∃ q y, p = q ++ [y] ∧ y ≠ 92 := by
        rcases hpp with rfl | h
        · cases m with
          | zero => simp at hm
          | succ m => rw [List.nil_append, ← rep_two] at hm; simp at hm
        · exact h
      have hxz2 : x.size = pl.length + e.length + c.length + 1 := by rw [hxz]; simp; omega
      have c2 : (x.size : Int) > 1 := by omega
      have hlastx : Ev (fun k => utf8_DecodeLastRuneInString.f k x) (r, (c.length : Int)) := last_ch (p := 42 :: (pl ++ e)) hnx hch (by rw [hx]; simp)
      have hlasts : Ev (fun k => utf8_DecodeLastRuneInString.f k s) (sc, (sd.length : Int)) := last_ch (p := sa) hns hsd hsb
      -- what is put off
      have hx2 : bytesOf (x.extract 0 ((x.size : Int) - ((e ++ c).length : Int)).toNat) = 42 :: pl := by
        refine head_bytes (c := 42 :: pl) (q := e ++ c) (by rw [hx]; simp) ?_
        rw [List.length_append, List.length_cons]; omega
      have hs2 : bytesOf (s.extract 0 ((s.size : Int) - (sd.length : Int)).toNat) = sa := head_bytes (c := sa) (q := sd) hsb (by omega)
      have hs2z : (s.extract 0 ((s.size : Int) - (sd.length : Int)).toNat).size ≤ 140737488351232 := by rw [← bytesOf_length, hs2]; omega
      have hx2z : (x.extract 0 ((x.size : Int) - ((e ++ c).length : Int)).toNat).size ≤ 140737488351232 := by rw [← bytesOf_length, hx2, List.length_cons]; omega
      obtain ⟨R', hR', hT', hS', hX'⟩ := ih cs' ts' _ _ pl (by simpa using hc) hs2z hx2z (by rw [hs2]; exact hsa) hpl hx2
      have hS2 : R'.1.size ≤ s.size := by
        have := hS'
        rw [ByteArray.size_extract] at this
        omega
      have hX2 : R'.2.1.size ≤ x.size := by
        have := hX'
        rw [ByteArray.size_extract] at this
        omega
      have reach : ∀ (b : Bool) (R : ByteArray × ByteArray × Bool), (e = [] ∧ b = false ∨ e = [92] ∧ b = true) → Ev (fun k => match_matchTrimSuffix.j3 k s x false true r ((e ++ c).length : Int) b) R → Ev (fun k => match_matchTrimSuffix.l0 k s x false true) R := by
        intro b R hb hj
        have hl1 : Ev (fun k => match_matchTrimSuffix.l1 k s x false true r c.length false 0) R := by
          rcases hb with ⟨rfl, rfl⟩ | ⟨rfl, rfl⟩
          · refine back_loop (q := q) (y := y) (m := 2 * m) hnx (by rw [hx, List.nil_append, ← List.cons_append, hm]; simp) hy ?_ (2 * m) 0 (by omega) (by omega)
            have e1 : ¬ 2 * m % 2 = 1 := by omega
            rw [if_neg e1]
            simpa only [decide_eq_false e1, List.nil_append] using hj
          · refine back_loop (q := q) (y := y) (m := 2 * m + 1) hnx ?_ hy ?_ (2 * m + 1) 0 (by omega) (by omega)
            · rw [hx, ← List.cons_append, hm, List.replicate_succ']; simp
            have e1 : (2 * m + 1) % 2 = 1 := by omega
            rw [if_pos e1]
            have e2 : (([92] ++ c).length : Int) = (c.length : Int) + 1 := by simp
            rw [e2] at hj
            simpa only [decide_eq_true e1] using hj
        have hj1 : Ev (fun k => match_matchTrimSuffix.j1 k s x false true true) R := by
          refine Ev.step (f := fun k => (utf8_DecodeLastRuneInString.f k x).bind fun b => match_matchTrimSuffix.l1 k s x false true b.1 b.2 false 0) (fun k => ?_) (Ev.bind (f := fun k b => match_matchTrimSuffix.l1 k s x false true b.1 b.2 false 0) hlastx hl1)
          simp only [match_matchTrimSuffix.j1, if_true]
        exact Ev.step (fun k => by simp only [match_matchTrimSuffix.l0, if_pos c1, decide_eq_true c2]) hj1
      have w1 : wrap64 ((s.size : Int) - (sd.length : Int)) = (s.size : Int) - (sd.length : Int) := wr (by omega) (by omega)
      have w2 : wrap64 ((x.size : Int) - ((e ++ c).length : Int)) = (x.size : Int) - ((e ++ c).length : Int) := by rw [List.length_append]; exact wr (by omega) (by omega)
      have q1 : 0 ≤ (s.size : Int) - (sd.length : Int) := by omega
      have q2 : (s.size : Int) - (sd.length : Int) ≤ s.size := by omega
      have q3 : 0 ≤ (x.size : Int) - ((e ++ c).length : Int) := by rw [List.length_append]; omega
      have q4 : (x.size : Int) - ((e ++ c).length : Int) ≤ x.size := by rw [List.length_append]; omega
      have cut : ∀ (b : Bool) (R : ByteArray × ByteArray × Bool), ((r = 63 ∧ b = false ∨ r = sc) → Ev (fun k => match_matchTrimSuffix.l0 k (s.extract 0 ((s.size : Int) - (sd.length : Int)).toNat) (x.extract 0 ((x.size : Int) - ((e ++ c).length : Int)).toNat) false true) R) →
          (¬ (r = 63 ∧ b = false ∨ r = sc) → R = (s, x, false)) → Ev (fun k => match_matchTrimSuffix.j4 k s x false true r ((e ++ c).length : Int) b false) R := by
        intro b R h1 h2
        refine Ev.step (f := fun k => (utf8_DecodeLastRuneInString.f k s).bind fun d => if r = 63 then (if b = true then (if r = d.1 then (if 0 ≤ (wrap64 ((s.size : Int) - d.2)) then (if (wrap64 ((s.size : Int) - d.2)) ≤ (s.size : Int) then (if 0 ≤ (wrap64 ((x.size : Int) - ((e ++ c).length : Int))) then (if (wrap64 ((x.size : Int) - ((e ++ c).length : Int))) ≤ (x.size : Int) then (match_matchTrimSuffix.l0 k (s.extract 0 ((wrap64 ((s.size : Int) - d.2)) : Int).toNat) (x.extract 0 ((wrap64 ((x.size : Int) - ((e ++ c).length : Int))) : Int).toNat) false true) else (none)) else (none)) else (none)) else (none)) else (some (s, x, false))) else (if 0 ≤ (wrap64 ((s.size : Int) - d.2)) then (if (wrap64 ((s.size : Int) - d.2)) ≤ (s.size : Int) then (if 0 ≤ (wrap64 ((x.size : Int) - ((e ++ c).length : Int))) then (if (wrap64 ((x.size : Int) - ((e ++ c).length : Int))) ≤ (x.size : Int) then (match_matchTrimSuffix.l0 k (s.extract 0 ((wrap64 ((s.size : Int) - d.2)) : Int).toNat) (x.extract 0 ((wrap64 ((x.size : Int) - ((e ++ c).length : Int))) : Int).toNat) false true) else (none)) else (none)) else (none)) else (none))) else (if r = d.1 then (if 0 ≤ (wrap64 ((s.size : Int) - d.2)) then (if (wrap64 ((s.size : Int) - d.2)) ≤ (s.size : Int) then (if 0 ≤ (wrap64 ((x.size : Int) - ((e ++ c).length : Int))) then (if (wrap64 ((x.size : Int) - ((e ++ c).length : Int))) ≤ (x.size : Int) then (match_matchTrimSuffix.l0 k (s.extract 0 ((wrap64 ((s.size : Int) - d.2)) : Int).toNat) (x.extract 0 ((wrap64 ((x.size : Int) - ((e ++ c).length : Int))) : Int).toNat) false true) else (none)) else (none)) else (none)) else (none)) else (some (s, x, false))))
          (fun k => by simp only [match_matchTrimSuffix.j4, Bool.false_eq_true, if_false])
          (Ev.bind (f := fun k d => if r = 63 then (if b = true then (if r = d.1 then (if 0 ≤ (wrap64 ((s.size : Int) - d.2)) then (if (wrap64 ((s.size : Int) - d.2)) ≤ (s.size : Int) then (if 0 ≤ (wrap64 ((x.size : Int) - ((e ++ c).length : Int))) then (if (wrap64 ((x.size : Int) - ((e ++ c).length : Int))) ≤ (x.size : Int) then (match_matchTrimSuffix.l0 k (s.extract 0 ((wrap64 ((s.size : Int) - d.2)) : Int).toNat) (x.extract 0 ((wrap64 ((x.size : Int) - ((e ++ c).length : Int))) : Int).toNat) false true) else (none)) else (none)) else (none)) else (none)) else (some (s, x, false))) else (if 0 ≤ (wrap64 ((s.size : Int) - d.2)) then (if (wrap64 ((s.size : Int) - d.2)) ≤ (s.size : Int) then (if 0 ≤ (wrap64 ((x.size : Int) - ((e ++ c).length : Int))) then (if (wrap64 ((x.size : Int) - ((e ++ c).length : Int))) ≤ (x.size : Int) then (match_matchTrimSuffix.l0 k (s.extract 0 ((wrap64 ((s.size : Int) - d.2)) : Int).toNat) (x.extract 0 ((wrap64 ((x.size : Int) - ((e ++ c).length : Int))) : Int).toNat) false true) else (none)) else (none)) else (none)) else (none))) else (if r = d.1 then (if 0 ≤ (wrap64 ((s.size : Int) - d.2)) then (if (wrap64 ((s.size : Int) - d.2)) ≤ (s.size : Int) then (if 0 ≤ (wrap64 ((x.size : Int) - ((e ++ c).length : Int))) then (if (wrap64 ((x.size : Int) - ((e ++ c).length : Int))) ≤ (x.size : Int) then (match_matchTrimSuffix.l0 k (s.extract 0 ((wrap64 ((s.size : Int) - d.2)) : Int).toNat) (x.extract 0 ((wrap64 ((x.size : Int) - ((e ++ c).length : Int))) : Int).toNat) false true) else (none)) else (none)) else (none)) else (none)) else (some (s, x, false)))) hlasts ?_)
        simp only [w1, w2, if_pos q1, if_pos q2, if_pos q3, if_pos q4]
        by_cases k1 : r = 63
        · by_cases k2 : b = true
          · by_cases k3 : r = sc
            · simpa only [if_pos k1, if_pos k2, if_pos k3] using h1 (.inr k3)
            · have : R = (s, x, false) := h2 (by rintro (⟨_, h⟩ | h); · rw [k2] at h; cases h
                                                 · exact k3 h)
              rw [this]
              simp only [if_pos k1, if_pos k2, if_neg k3]
              exact Ev.now _
          · have k2' : b = false := by simpa using k2
            simpa only [if_pos k1, if_neg k2] using h1 (.inl ⟨k1, k2'⟩)
        · by_cases k3 : r = sc
          · simpa only [if_neg k1, if_pos k3] using h1 (.inr k3)
          · have : R = (s, x, false) := h2 (by rintro (⟨h, _⟩ | h); · exact k1 h
                                               · exact k3 h)
            rw [this]
            simp only [if_neg k1, if_neg k3]
            exact Ev.now _
      have j3 : ∀ (b : Bool) (R : ByteArray × ByteArray × Bool), ¬ (r = 42 ∧ b = false) → Ev (fun k => match_matchTrimSuffix.j4 k s x false true r ((e ++ c).length : Int) b false) R → Ev (fun k => match_matchTrimSuffix.j3 k s x false true r ((e ++ c).length : Int) b) R := by
        intro b R h1 h2
        refine Ev.step (fun k => ?_) h2
        by_cases k1 : r = 42
        · have : b = true := by
            cases b with
            | true => rfl
            | false => exact absurd ⟨k1, rfl⟩ h1
          subst this
          simp only [match_matchTrimSuffix.j3, if_pos k1, Bool.not_true]
        · simp only [match_matchTrimSuffix.j3, if_neg k1]
      have same : ∀ (P : Prop), (GM (.star :: (ts' ++ [t])) (cs' ++ [sc]) ↔ GM (.star :: ts') cs') → Trim (cs' ++ [sc]) (ts' ++ [t]) R' := by
        intro _ hiff
        refine ⟨fun h => fun hg => hT'.1 h (hiff.1 hg), fun h => ?_⟩
        obtain ⟨cs2, l2, ts2, cs3, g1, g2, g3, rfl, g5, g6⟩ := hT'.2 h
        exact ⟨cs2, l2, ts2, cs3 ++ [sc], g1, g2, g3, by simp, by simp; omega, hiff.trans g6⟩
      rcases hk with ⟨he, hk⟩ | ⟨he, ht⟩
      · rcases hk with ⟨rfl, rfl⟩ | ⟨rfl, rfl⟩ | ⟨rfl, h1, h2, h3⟩
        · -- a star
          refine ⟨(s, x, true), reach false _ (.inl ⟨he, rfl⟩) ?_, trim_here hs hp hx, Nat.le_refl _, Nat.le_refl _⟩
          have e4 : Ev (fun k => match_matchTrimSuffix.j4 k s x false true 42 ((e ++ c).length : Int) false true) (s, x, true) := ev_one fun k => by simp only [match_matchTrimSuffix.j4, if_true]
          exact Ev.step (fun k => by simp only [match_matchTrimSuffix.j3, if_true, Bool.not_false]) e4
        · -- a question mark
          refine ⟨R', reach false _ (.inl ⟨he, rfl⟩) (j3 false _ (by omega) (cut false _ (fun _ => hR') (fun h => absurd (.inl ⟨rfl, rfl⟩) h))), same True ?_, hS2, hX2⟩
          rw [← List.cons_append]; exact gm_snoc_one
        · by_cases k3 : r = sc
          · refine ⟨R', reach false _ (.inl ⟨he, rfl⟩) (j3 false _ (by omega) (cut false _ (fun _ => hR') (fun h => absurd (.inr k3) h))), same True ?_, hS2, hX2⟩
            rw [← List.cons_append, gm_snoc_ch]
            exact ⟨fun h => h.2, fun h => ⟨k3, h⟩⟩
          · refine ⟨(s, x, false), reach false _ (.inl ⟨he, rfl⟩) (j3 false _ (by omega) (cut false _ (fun h => ?_) (fun _ => rfl))), ⟨fun _ hg => ?_, fun h => by cases h⟩, Nat.le_refl _, Nat.le_refl _⟩
            · rcases h with h | h
              · exact absurd h.1 h2
              · exact absurd h k3
            · rw [← List.cons_append, gm_snoc_ch] at hg
              exact k3 hg.1
      · subst ht
        by_cases k3 : r = sc
        · refine ⟨R', reach true _ (.inr ⟨he, rfl⟩) (j3 true _ (by simp) (cut true _ (fun _ => hR') (fun h => absurd (.inr k3) h))), same True ?_, hS2, hX2⟩
          rw [← List.cons_append, gm_snoc_ch]
          exact ⟨fun h => h.2, fun h => ⟨k3, h⟩⟩
        · refine ⟨(s, x, false), reach true _ (.inr ⟨he, rfl⟩) (j3 true _ (by simp) (cut true _ (fun h => ?_) (fun _ => rfl))), ⟨fun _ hg => ?_, fun h => by cases h⟩, Nat.le_refl _, Nat.le_refl _⟩
          · rcases h with h | h
            · exact absurd h.2 (by simp)
            · exact absurd h k3
          · rw [← List.cons_append, gm_snoc_ch] at hg
            exact k3 hg.1
end Go.Proofs.YtfpbbnllaogclaaDoor.J
