/- What the matcher computes of a text and a pattern in UTF-8. -/
import Derived.Test.YtfpbbnllaogclaaDoorMGlob
import Derived.Test.YtfpbbnllaogclaaDoorPAx13
import Derived.Test.YtfpbbnllaogclaaDoorPAx14
import Derived.Test.YtfpbbnllaogclaaDoorPAx9
namespace Go.Proofs.YtfpbbnllaogclaaDoor.J
open Go.RowKit Go.Proofs.YtfpbbnllaogclaaDoor.PA Go.Proofs.YtfpbbnllaogclaaDoorW.PrintWords Go.Proofs.YtfpbbnllaogclaaDoorW.PrintLast
set_option linter.unusedSimpArgs false
set_option linter.unusedVariables false
theorem tx_cons {s : ByteArray} {c : Int} {cs : List Int} (h : Tx (bytesOf s) (c :: cs)) : ∃ d q, bytesOf s = d ++ q ∧ Ch d c ∧ Tx q cs := by
  generalize bytesOf s = z at h ⊢
  cases h with
  | @cons d q _ _ hc ht => exact ⟨d, q, rfl, hc, ht⟩
/-- The pattern's first character is read. -/
theorem head_pat {s x : ByteArray} {c q : List Int} {r : Int} {R : Int} (hc : Ch c r) (h : bytesOf x = c ++ q)
    (hj : Ev (fun k => match_match.j1 k s x 0 () (-1) false false r c.length) R) : Ev (fun k => match_match.l0 k s x 0 () (-1) false) R := by
  obtain ⟨hz, h1, h2, h3⟩ := ch_first hc h
  have b0 := bt_lo x 0
  have b1 := bt_hi x 0
  have w : wrap32 (bt x 0) = bt x 0 := wr32 (by omega) (by omega)
  have c1 : (x.size : Int) > 0 := by omega
  by_cases k1 : bt x 0 > 127
  · refine Ev.step (f := fun k => (utf8_DecodeRuneInString.f k x).bind fun b => match_match.j1 k s x 0 () (-1) false false b.1 b.2) (fun k => ?_) (Ev.bind (f := fun k b => match_match.j1 k s x 0 () (-1) false false b.1 b.2) (dec_ch hc h) hj)
    simp only [match_match.l0, if_pos c1, if_pos hz, w, if_pos k1]
  · obtain ⟨e1, e2⟩ := h1 (by omega)
    subst e2
    refine Ev.step (fun k => ?_) hj
    simp only [match_match.l0, if_pos c1, if_pos hz, w, if_neg k1]
    rw [e1]; rfl
/-- The text's first character is read. -/
theorem head_text {s x : ByteArray} {d q : List Int} {sc pc ps : Int} {R : Int} (hd : Ch d sc) (h : bytesOf s = d ++ q)
    (hj : Ev (fun k => match_match.j2 k s x 0 () (-1) false false pc ps sc d.length) R) : Ev (fun k => match_match.j1 k s x 0 () (-1) false false pc ps) R := by
  obtain ⟨hz, h1, h2, h3⟩ := ch_first hd h
  have b0 := bt_lo s 0
  have b1 := bt_hi s 0
  have w : wrap32 (bt s 0) = bt s 0 := wr32 (by omega) (by omega)
  have c1 : (s.size : Int) > 0 := by omega
  by_cases k1 : bt s 0 > 127
  · refine Ev.step (f := fun k => (utf8_DecodeRuneInString.f k s).bind fun b => match_match.j2 k s x 0 () (-1) false false pc ps b.1 b.2) (fun k => ?_) (Ev.bind (f := fun k b => match_match.j2 k s x 0 () (-1) false false pc ps b.1 b.2) (dec_ch hd h) hj)
    simp only [match_match.j1, if_pos c1, if_pos hz, w, if_pos k1]
  · obtain ⟨e1, e2⟩ := h1 (by omega)
    subst e2
    refine Ev.step (fun k => ?_) hj
    simp only [match_match.j1, if_pos c1, if_pos hz, w, if_neg k1]
    rw [e1]; rfl
theorem no_text {s x : ByteArray} {pc ps : Int} {R : Int} (h : s.size = 0) (hj : Ev (fun k => match_match.j2 k s x 0 () (-1) false false pc ps 0 0) R) : Ev (fun k => match_match.j1 k s x 0 () (-1) false false pc ps) R := by
  have c1 : ¬ (s.size : Int) > 0 := by omega
  refine Ev.step (fun k => ?_) hj
  simp only [match_match.j1, if_neg c1]
theorem j6_ev {s x : ByteArray} {d c q : List Int} {sc pc : Int} {b : Bool} (hd : (d.length : Int) ≤ s.size) (hx : (c.length : Int) ≤ x.size)
    (he : sc = pc → Ev (fun k => match_match.l0 k (s.extract ((d.length : Int)).toNat s.size) (x.extract ((c.length : Int)).toNat x.size) 0 () (-1) false) (if b = true then 1 else 0)) (hn : sc ≠ pc → b = false) :
    Ev (fun k => match_match.j5 k s x 0 () (-1) false false pc c.length sc d.length) (if b = true then 1 else 0) := by
  have q1 : 0 ≤ (d.length : Int) := by omega
  have q2 : 0 ≤ (c.length : Int) := by omega
  have h6 : Ev (fun k => match_match.j6 k s x 0 () (-1) false false pc c.length sc d.length) (if b = true then 1 else 0) := by
    by_cases k1 : sc = pc
    · refine Ev.step (fun k => ?_) (he k1)
      simp only [match_match.j6, if_pos k1, if_pos q1, if_pos hd, Bool.false_eq_true, if_false, if_pos q2, if_pos hx]
    · rw [hn k1]
      refine ev_one fun k => ?_
      simp only [match_match.j6, if_neg k1, Bool.false_eq_true, if_false]
  exact Ev.step (fun k => by simp only [match_match.j5, Bool.false_eq_true, if_false]) h6
/-- Stars one behind the other. -/
theorem skip_stars {s : ByteArray} {n : Int} : ∀ (ts : List Tm) (l : List Int) (x : ByteArray), Pt l ts → bytesOf x = 42 :: l →
    ∃ ts2 l2 y, Pt l2 ts2 ∧ bytesOf y = 42 :: l2 ∧ ts2.length ≤ ts.length ∧ y.size ≤ x.size ∧ (∀ cs, GM (.star :: ts) cs ↔ GM (.star :: ts2) cs) ∧
      ∀ R, Ev (fun k => match_match.j4 k s y 0 () (-1) false n) R → Ev (fun k => match_match.l1 k s x 0 () (-1) false n) R := by
  intro ts
  induction ts with
  | nil =>
    intro l x hp hx
    refine ⟨[], l, x, hp, hx, Nat.le_refl _, Nat.le_refl _, fun _ => Iff.rfl, fun R h => ?_⟩
    have : l = [] := by
      generalize l = z at hp
      cases hp; rfl
    subst this
    have hz : x.size = 1 := by rw [← bytesOf_length x, hx]; rfl
    have c1 : ¬ (x.size : Int) > 1 := by omega
    exact Ev.step (fun k => by simp only [match_match.l1, if_neg c1]) h
  | cons t ts ih =>
    intro l x hp hx
    have hz : x.size = l.length + 1 := by rw [← bytesOf_length x, hx, List.length_cons]
    have hl := hp.len
    rw [List.length_cons] at hl
    have c1 : (x.size : Int) > 1 := by omega
    have c2 : 1 < (x.size : Int) := c1
    obtain ⟨a, l', rfl⟩ : ∃ a l', l = a :: l' := by
      cases l with
      | nil => simp at hl
      | cons a l' => exact ⟨a, l', rfl⟩
    have hb : bt x 1 = a := by
      have := bt_split (s := x) (p := [42]) (c := [a]) (q := l') hx 0 (by simp)
      simpa using this
    by_cases k1 : a = 42
    · subst k1
      obtain ⟨ts', he, hp'⟩ := first_star hp
      simp only [List.cons.injEq] at he
      obtain ⟨rfl, rfl⟩ := he
      have hx' : bytesOf (x.extract 1 x.size) = 42 :: l' := by
        have := tail_bytes (s := x) (c := [42]) (q := 42 :: l') hx
        simpa using this
      have hxz : (x.extract 1 x.size).size ≤ x.size := by rw [ByteArray.size_extract]; omega
      obtain ⟨ts2, l2, y, g1, g2, g3, g4, g5, g6⟩ := ih l' _ hp' hx'
      refine ⟨ts2, l2, y, g1, g2, by simp; omega, by omega, fun cs => gm_two.trans (g5 cs), fun R h => ?_⟩
      have c3 : 1 ≤ (x.size : Int) := by omega
      exact Ev.step (fun k => by simp only [match_match.l1, if_pos c1, if_pos c2, hb, if_true, if_pos c3]) (g6 R h)
    · refine ⟨t :: ts, a :: l', x, hp, hx, Nat.le_refl _, Nat.le_refl _, fun _ => Iff.rfl, fun R h => ?_⟩
      exact Ev.step (fun k => by simp only [match_match.l1, if_pos c1, if_pos c2, hb, if_neg k1]) h
theorem ite_one {b : Bool} : ((if b = true then (1 : Int) else 0) = 0 ↔ b = false) := by cases b <;> simp
theorem match_ev : ∀ (N : Nat) (cs : List Int) (ts : List Tm) (s x : ByteArray), cs.length + ts.length ≤ N → s.size ≤ 140737488351232 → x.size ≤ 140737488351232 → Tx (bytesOf s) cs → Pt (bytesOf x) ts →
    ∃ b : Bool, Ev (fun k => match_match.l0 k s x 0 () (-1) false) (if b = true then 1 else 0) ∧ (b = true ↔ GM ts cs) := by
  intro N
  induction N with
  | zero =>
    intro cs ts s x hN hsn hxn hs hp
    obtain rfl := List.eq_nil_of_length_eq_zero (show ts.length = 0 by omega)
    obtain rfl := List.eq_nil_of_length_eq_zero (show cs.length = 0 by omega)
    have hz := tx_empty hs
    have hxz : x.size = 0 := by
      rw [← bytesOf_length x]
      generalize bytesOf x = z at hp
      cases hp; rfl
    have c1 : ¬ (x.size : Int) > 0 := by omega
    have c2 : (s.size : Int) = 0 := by omega
    exact ⟨true, ev_one fun k => by simp only [match_match.l0, if_neg c1, if_pos c2, if_true], by simp [gm_nil]⟩
  | succ N ih =>
    intro cs ts s x hN hsn hxn hs hp
    cases ts with
    | nil =>
      have hxz : x.size = 0 := by
        rw [← bytesOf_length x]
        generalize bytesOf x = z at hp
        cases hp; rfl
      have c1 : ¬ (x.size : Int) > 0 := by omega
      cases cs with
      | nil =>
        have hz := tx_empty hs
        have c2 : (s.size : Int) = 0 := by omega
        exact ⟨true, ev_one fun k => by simp only [match_match.l0, if_neg c1, if_pos c2, if_true], by simp [gm_nil]⟩
      | cons c cs =>
        have hl := hs.len
        rw [bytesOf_length, List.length_cons] at hl
        have c2 : ¬ (s.size : Int) = 0 := by omega
        exact ⟨false, ev_one fun k => by simp only [match_match.l0, if_neg c1, if_neg c2, Bool.false_eq_true, if_false], by simp [gm_nil]⟩
    | cons t ts =>
      simp only [List.length_cons] at hN
      obtain ⟨pc, q, hx, hpc, hq⟩ : ∃ pc q, bytesOf x = pc ++ q ∧ Pc pc t ∧ Pt q ts := by
        generalize bytesOf x = z at hp ⊢
        cases hp with
        | @cons c l _ _ hc ht => exact ⟨c, l, rfl, hc, ht⟩
      -- one character against one character
      have single : ∀ (y : ByteArray) (c : List Int) (r : Int), Ch c r → bytesOf y = c ++ q → y.size ≤ 140737488351232 → ∀ (d p : List Int) (sc : Int) (cs' : List Int), cs = sc :: cs' → bytesOf s = d ++ p → Ch d sc → Tx p cs' →
          ∃ b : Bool, Ev (fun k => match_match.j5 k s y 0 () (-1) false false r c.length sc d.length) (if b = true then 1 else 0) ∧ (b = true ↔ GM (.ch r :: ts) cs) := by
        intro y c r hc hy hyn d p sc cs' hcs hsb hd ht
        obtain ⟨_, _, _, z1⟩ := ch_first hc hy
        obtain ⟨_, _, _, z2⟩ := ch_first hd hsb
        have e1 := tail_bytes hsb
        have e2 := tail_bytes hy
        have n1 : (s.extract ((d.length : Int)).toNat s.size).size ≤ 140737488351232 := by rw [ByteArray.size_extract]; omega
        have n2 : (y.extract ((c.length : Int)).toNat y.size).size ≤ 140737488351232 := by rw [ByteArray.size_extract]; omega
        subst hcs
        simp only [List.length_cons] at hN
        obtain ⟨b, hb, hiff⟩ := ih cs' ts _ _ (by omega) n1 n2 (by rw [e1]; exact ht) (by rw [e2]; exact hq)
        by_cases k1 : sc = r
        · refine ⟨b, j6_ev (q := q) z2 z1 (fun _ => hb) (fun h => absurd k1 h), hiff.trans ?_⟩
          rw [gm_ch]
          exact ⟨fun h => ⟨cs', by rw [k1], h⟩, fun ⟨t', e, h⟩ => by simp only [List.cons.injEq] at e; rw [e.2]; exact h⟩
        · refine ⟨false, j6_ev (q := q) z2 z1 (fun h => absurd h k1) (fun _ => rfl), ?_⟩
          rw [gm_ch]
          refine ⟨fun h => (by cases h), ?_⟩
          rintro ⟨t', e, h⟩
          simp only [List.cons.injEq] at e
          exact absurd e.1 k1
      cases hpc with
      | one =>
        have c0 := fun R => head_pat (s := s) (R := R) ch63 hx
        cases cs with
        | nil =>
          have hz := tx_empty hs
          refine ⟨false, c0 _ (no_text hz (ev_one fun k => ?_)), ?_⟩
          · simp only [match_match.j2, if_true, Bool.false_eq_true, if_false]
          · rw [gm_one]; simp
        | cons c cs =>
          obtain ⟨d, p, hsb, hd, ht⟩ := tx_cons hs
          obtain ⟨_, _, _, z2⟩ := ch_first hd hsb
          obtain ⟨_, _, _, z1⟩ := ch_first ch63 hx
          have hdl := hd.len
          have e1 := tail_bytes hsb
          have e2 := tail_bytes (s := x) (c := [63]) hx
          have n1 : (s.extract ((d.length : Int)).toNat s.size).size ≤ 140737488351232 := by rw [ByteArray.size_extract]; omega
          have n2 : (x.extract ((([63] : List Int).length : Int)).toNat x.size).size ≤ 140737488351232 := by rw [ByteArray.size_extract]; omega
          simp only [List.length_cons] at hN
          obtain ⟨b, hb, hiff⟩ := ih cs ts _ _ (by omega) n1 n2 (by rw [e1]; exact ht) (by rw [e2]; exact hq)
          refine ⟨b, c0 _ (head_text hd hsb (Ev.step (fun k => ?_) hb)), hiff.trans ?_⟩
          · have c1 : ¬ (d.length : Int) = 0 := by omega
            have c2 : 0 ≤ (d.length : Int) := by omega
            have c3 : 0 ≤ (([63] : List Int).length : Int) := by omega
            simp only [match_match.j2, if_true, if_neg c1, if_pos c2, if_pos z2, Bool.false_eq_true, if_false, if_pos c3, if_pos z1]
          · rw [gm_one]
            exact ⟨fun h => ⟨c, cs, rfl, h⟩, fun ⟨c', t', e, h⟩ => by simp only [List.cons.injEq] at e; rw [e.2]; exact h⟩
      | @plain c r hc h42 h63 h92 =>
        have c0 := fun R => head_pat (s := s) (R := R) hc hx
        cases cs with
        | nil =>
          have hz := tx_empty hs
          refine ⟨false, c0 _ (no_text hz (ev_one fun k => ?_)), ?_⟩
          · simp only [match_match.j2, if_neg h63, if_neg h42, if_true, Bool.false_eq_true, if_false]
          · rw [gm_ch]; simp
        | cons sc cs =>
          obtain ⟨d, p, hsb, hd, ht⟩ := tx_cons hs
          have hdl := hd.len
          obtain ⟨b, hb, hiff⟩ := single x pc r hc hx hxn d p sc cs rfl hsb hd ht
          refine ⟨b, c0 _ (head_text hd hsb (Ev.step (fun k => ?_) hb)), hiff⟩
          have c1 : ¬ (d.length : Int) = 0 := by omega
          simp only [match_match.j2, if_neg h63, if_neg h42, if_neg c1, if_neg h92]
      | @esc c r hc =>
        have hx' : bytesOf x = [92] ++ (c ++ q) := hx
        have c0 := fun R => head_pat (s := s) (R := R) ch92 hx'
        have k1 : ¬ (92 : Int) = 63 := by decide
        have k2 : ¬ (92 : Int) = 42 := by decide
        cases cs with
        | nil =>
          have hz := tx_empty hs
          refine ⟨false, c0 _ (no_text hz (ev_one fun k => ?_)), ?_⟩
          · simp only [match_match.j2, if_neg k1, if_neg k2, if_true, Bool.false_eq_true, if_false]
          · rw [gm_ch]; simp
        | cons sc cs =>
          obtain ⟨d, p, hsb, hd, ht⟩ := tx_cons hs
          obtain ⟨_, _, _, z1⟩ := ch_first ch92 hx'
          have hdl := hd.len
          have hcl := hc.len
          have e2 := tail_bytes (s := x) (c := [92]) hx'
          have n2 : (x.extract ((([92] : List Int).length : Int)).toNat x.size).size ≤ 140737488351232 := by rw [ByteArray.size_extract]; omega
          obtain ⟨b, hb, hiff⟩ := single _ c r hc e2 n2 d p sc cs rfl hsb hd ht
          have c1 : ¬ (d.length : Int) = 0 := by omega
          have c2 : 0 ≤ (([92] : List Int).length : Int) := by omega
          have c3 : ¬ (c.length : Int) = 0 := by omega
          refine ⟨b, c0 _ (head_text hd hsb (Ev.step (f := fun k => (utf8_DecodeRuneInString.f k (x.extract ((([92] : List Int).length : Int)).toNat x.size)).bind fun g => if g.2 = 0 then some 0 else match_match.j5 k s (x.extract ((([92] : List Int).length : Int)).toNat x.size) 0 () (-1) false false g.1 g.2 sc d.length) (fun k => ?_)
            (Ev.bind (f := fun k g => if g.2 = 0 then some 0 else match_match.j5 k s (x.extract ((([92] : List Int).length : Int)).toNat x.size) 0 () (-1) false false g.1 g.2 sc d.length) (dec_ch hc e2) ?_))), hiff⟩
          · simp only [match_match.j2, if_neg k1, if_neg k2, if_neg c1, if_true, if_pos c2, if_pos z1]
          · simp only [if_neg c3]
            exact hb
      | star =>
        have k1 : ¬ (42 : Int) = 63 := by decide
        have c0 := fun R => head_pat (s := s) (R := R) ch42 hx
        -- what the first character of the text is
        obtain ⟨n, hn0, hn1, hgo⟩ : ∃ n : Int, 0 ≤ n ∧ (∀ c cs' d p, cs = c :: cs' → bytesOf s = d ++ p → Ch d c → n = d.length) ∧
            ∀ R, Ev (fun k => match_match.l1 k s x 0 () (-1) false n) R → Ev (fun k => match_match.l0 k s x 0 () (-1) false) R := by
          cases cs with
          | nil =>
            have hz := tx_empty hs
            refine ⟨0, by omega, (fun _ _ _ _ e => by cases e), fun R h => c0 _ (no_text hz (Ev.step (fun k => ?_) h))⟩
            simp only [match_match.j2, if_neg k1, if_true]
          | cons c cs =>
            obtain ⟨d, p, hsb, hd, ht⟩ := tx_cons hs
            refine ⟨d.length, by omega, fun c' cs' d' p' e _ hd' => ?_, fun R h => c0 _ (head_text hd hsb (Ev.step (fun k => ?_) h))⟩
            · simp only [List.cons.injEq] at e
              rw [← e.1] at hd'
              rw [hd.inj hd']
            · simp only [match_match.j2, if_neg k1, if_true]
        obtain ⟨ts2, l2, y, g1, g2, g3, g4, g5, g6⟩ := skip_stars (s := s) (n := n) ts q x hq hx
        suffices hsuf : ∃ b : Bool, Ev (fun k => match_match.j4 k s y 0 () (-1) false n) (if b = true then 1 else 0) ∧ (b = true ↔ GM (.star :: ts2) cs) by
          obtain ⟨b, hb, hiff⟩ := hsuf
          exact ⟨b, hgo _ (g6 _ hb), hiff.trans (g5 cs).symm⟩
        have hyz : y.size = l2.length + 1 := by rw [← bytesOf_length y, g2, List.length_cons]
        by_cases c1 : (y.size : Int) = 1
        · have : ts2 = [] := by
            have := g1.len
            exact List.eq_nil_of_length_eq_zero (by omega)
          subst this
          exact ⟨true, ev_one fun k => by simp only [match_match.j4, if_pos c1, if_true], by simp [gm_all]⟩
        · obtain ⟨⟨s3, y3, ok⟩, hR, hT, hS3, hY3⟩ := trim_ev cs.length cs ts2 s y l2 rfl hsn (by omega) hs g1 g2
          have hTf : Ev (fun k => match_matchTrimSuffix.f k s y false) (s3, y3, ok) := hR
          have start : ∀ b : Bool, Ev (fun k => if ok = true then (if (y3.size : Int) = 1 then (some 1) else (if 1 ≤ (y3.size : Int) then ((match_match.f k s3 (y3.extract 1 y3.size) 0 () (-1) false).bind fun t131 => (if t131 = 0 then (if (s3.size : Int) = 0 then (some 0) else (if 0 ≤ n then (if n ≤ (s3.size : Int) then (match_match.l0 k (s3.extract (n : Int).toNat s3.size) y3 0 () (-1) false) else (none)) else (none))) else (some t131))) else (none))) else (some 0)) (if b = true then 1 else 0) → Ev (fun k => match_match.j4 k s y 0 () (-1) false n) (if b = true then 1 else 0) := by
            intro b h
            refine Ev.step (f := fun k => (match_matchTrimSuffix.f k s y false).bind fun bt128 => (if bt128.2.2 = true then (if (bt128.2.1.size : Int) = 1 then (some 1) else (if 1 ≤ (bt128.2.1.size : Int) then ((match_match.f k bt128.1 (bt128.2.1.extract 1 bt128.2.1.size) 0 () (-1) false).bind fun t131 => (if t131 = 0 then (if (bt128.1.size : Int) = 0 then (some 0) else (if 0 ≤ n then (if n ≤ (bt128.1.size : Int) then (match_match.l0 k (bt128.1.extract (n : Int).toNat bt128.1.size) bt128.2.1 0 () (-1) false) else (none)) else (none))) else (some t131))) else (none))) else (some 0))) (fun k => by simp only [match_match.j4, if_neg c1]) ?_
            exact Ev.bind (f := fun k bt128 => (if bt128.2.2 = true then (if (bt128.2.1.size : Int) = 1 then (some 1) else (if 1 ≤ (bt128.2.1.size : Int) then ((match_match.f k bt128.1 (bt128.2.1.extract 1 bt128.2.1.size) 0 () (-1) false).bind fun t131 => (if t131 = 0 then (if (bt128.1.size : Int) = 0 then (some 0) else (if 0 ≤ n then (if n ≤ (bt128.1.size : Int) then (match_match.l0 k (bt128.1.extract (n : Int).toNat bt128.1.size) bt128.2.1 0 () (-1) false) else (none)) else (none))) else (some t131))) else (none))) else (some 0))) hTf h
          cases ok with
          | false =>
            refine ⟨false, start false (ev_const fun _ => by simp only [Bool.false_eq_true, if_false]), ?_⟩
            exact ⟨fun h => (by cases h), fun h => absurd h (hT.1 rfl)⟩
          | true =>
            obtain ⟨cs2, l3, ts3, cs3, h1, h2, h3, rfl, h5, h6⟩ := hT.2 rfl
            replace h1 : Tx (bytesOf s3) cs2 := h1
            replace h3 : bytesOf y3 = 42 :: l3 := h3
            simp only [List.length_append] at hN
            have hyz3 : y3.size = l3.length + 1 := by rw [← bytesOf_length y3, h3, List.length_cons]
            by_cases c2 : (y3.size : Int) = 1
            · have : ts3 = [] := by
                have := h2.len
                exact List.eq_nil_of_length_eq_zero (by omega)
              subst this
              exact ⟨true, start true (ev_const fun _ => by simp only [if_true, if_pos c2]), by simp only [true_iff]; exact h6.2 (gm_all _)⟩
            · have c3 : 1 ≤ (y3.size : Int) := by omega
              have e3 : bytesOf (y3.extract 1 y3.size) = l3 := by
                have := tail_bytes (s := y3) (c := [42]) (q := l3) h3
                simpa using this
              have hz3 : s3.size ≤ 140737488351232 := Nat.le_trans hS3 hsn
              have hl3y : y3.size ≤ 140737488351232 := Nat.le_trans hY3 (by omega)
              have n3 : (y3.extract 1 y3.size).size ≤ 140737488351232 := by rw [ByteArray.size_extract]; omega
              obtain ⟨b1, hb1, hi1⟩ := ih cs2 ts3 s3 (y3.extract 1 y3.size) (by omega) hz3 n3 h1 (by rw [e3]; exact h2)
              have hf : Ev (fun k => match_match.f k s3 (y3.extract 1 y3.size) 0 () (-1) false) (if b1 = true then 1 else 0) := by
                have c4 : ¬ ((-1 : Int) > (-1)) := by decide
                exact Ev.step (fun k => by simp only [match_match.f, if_neg c4]) hb1
              have go : ∀ b : Bool, Ev (fun k => if (if b1 = true then (1 : Int) else 0) = 0 then (if (s3.size : Int) = 0 then (some 0) else (if 0 ≤ n then (if n ≤ (s3.size : Int) then (match_match.l0 k (s3.extract (n : Int).toNat s3.size) y3 0 () (-1) false) else (none)) else (none))) else (some (if b1 = true then (1 : Int) else 0))) (if b = true then 1 else 0) → Ev (fun k => match_match.j4 k s y 0 () (-1) false n) (if b = true then 1 else 0) := by
                intro b h
                refine start b ?_
                simp only [if_true, if_neg c2, if_pos c3]
                exact Ev.bind (f := fun k t131 => (if t131 = 0 then (if (s3.size : Int) = 0 then (some 0) else (if 0 ≤ n then (if n ≤ (s3.size : Int) then (match_match.l0 k (s3.extract (n : Int).toNat s3.size) y3 0 () (-1) false) else (none)) else (none))) else (some t131))) hf h
              cases b1 with
              | true =>
                refine ⟨true, go true (ev_const fun _ => by simp), ?_⟩
                simp only [true_iff]
                exact h6.2 (gm_star.2 ⟨[], cs2, rfl, hi1.1 rfl⟩)
              | false =>
                have hno : ¬ GM ts3 cs2 := fun h => by have := hi1.2 h; cases this
                cases cs2 with
                | nil =>
                  have hz := tx_empty h1
                  have c5 : (s3.size : Int) = 0 := by omega
                  refine ⟨false, go false (ev_const fun _ => by simp [c5]), ?_⟩
                  exact ⟨fun h => (by cases h), fun h => absurd (gm_star_nil.1 (h6.1 h)) hno⟩
                | cons c cs2 =>
                  obtain ⟨d3, p3, hsb3, hd3, ht3⟩ := tx_cons h1
                  obtain ⟨d, p, hsb, hd, _⟩ := tx_cons (s := s) (c := c) (cs := cs2 ++ cs3) hs
                  obtain rfl := hd.inj hd3
                  have hnn : n = d.length := hn1 c (cs2 ++ cs3) d p rfl hsb hd
                  subst hnn
                  obtain ⟨z0, _, _, z1⟩ := ch_first hd hsb3
                  have e4 := tail_bytes hsb3
                  have n4 : (s3.extract ((d.length : Int)).toNat s3.size).size ≤ 140737488351232 := by rw [ByteArray.size_extract]; omega
                  simp only [List.length_cons] at hN
                  obtain ⟨b2, hb2, hi2⟩ := ih cs2 (.star :: ts3) _ y3 (by simp only [List.length_cons]; omega) n4 hl3y (by rw [e4]; exact ht3) (by rw [h3]; exact .cons .star h2)
                  have c5 : ¬ (s3.size : Int) = 0 := by omega
                  refine ⟨b2, go b2 ?_, hi2.trans ?_⟩
                  · refine Ev.congr (fun k => ?_) hb2
                    simp only [Bool.false_eq_true, if_false, if_true, if_neg c5, if_pos hn0, if_pos z1]
                  · rw [h6, gm_star_cons]
                    exact ⟨.inr, fun h => h.resolve_left hno⟩
end Go.Proofs.YtfpbbnllaogclaaDoor.J
