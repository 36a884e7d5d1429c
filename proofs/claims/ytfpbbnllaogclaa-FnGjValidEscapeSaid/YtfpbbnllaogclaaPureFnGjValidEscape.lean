/- A string of a backslash and one byte is a JSON text just if the byte is one of the eight letters; of a backslash, 'u' and four bytes just if these are hexadecimal digits; no condition at all. -/
import Derived.Test.YtfpbbnllaogclaaPAx10
import Derived.Test.YtfpbbnllaogclaaPAx11
import Derived.Test.YtfpbbnllaogclaaPAx12
import Derived.Test.YtfpbbnllaogclaaPAx13
import Derived.Test.YtfpbbnllaogclaaPAx14
import Derived.Test.YtfpbbnllaogclaaPAx3
import Derived.Test.YtfpbbnllaogclaaPAx4
import Derived.Test.YtfpbbnllaogclaaPAx9
import Derived.Test.YtfpbbnllaogclaaJByt
namespace Go.Proofs.Ytfpbbnllaogclaa.Pure
open Go.RowKit Go.Proofs.Ytfpbbnllaogclaa.PA Go.Proofs.Ytfpbbnllaogclaa.J Go.Proofs.YtfpbbnllaogclaaW.PrintWords Go.Proofs.YtfpbbnllaogclaaW.PrintLast
set_option linter.unusedSimpArgs false
set_option linter.unusedVariables false
def hexd (c : Int) : Bool := (48 ≤ c && c ≤ 57) || (97 ≤ c && c ≤ 102) || (65 ≤ c && c ≤ 70)
theorem hexd_iff (c : Int) : hexd c = true ↔ (48 ≤ c ∧ c ≤ 57) ∨ (97 ≤ c ∧ c ≤ 102) ∨ (65 ≤ c ∧ c ≤ 70) := by
  simp [hexd, or_assoc]
theorem ishex_eq (c : Int) : gjson_ishex.f c = some (hexd c) := by
  unfold gjson_ishex.f
  by_cases a : 48 ≤ c ∧ c ≤ 57
  · rw [if_pos a.1, if_pos a.2, (hexd_iff c).2 (.inl a)]
  by_cases b : 97 ≤ c ∧ c ≤ 102
  · rw [(hexd_iff c).2 (.inr (.inl b))]
    simp (disch := omega) only [if_pos, if_neg, ite_self]
  have e2 : hexd c = decide (65 ≤ c ∧ c ≤ 70) := by
    rw [Bool.eq_iff_iff, hexd_iff]; simp only [decide_eq_true_iff]; omega
  rw [e2]
  have f : (if c ≥ 65 then some (decide (c ≤ 70)) else some false) = some (decide (65 ≤ c ∧ c ≤ 70)) := by
    split
    · congr 1; rw [Bool.eq_iff_iff]; simp only [decide_eq_true_iff]; omega
    · rw [decide_eq_false (by omega)]
  rw [f]
  by_cases g : c ≥ 48
  · rw [if_pos g, if_neg (by omega)]
    by_cases g2 : c ≥ 97
    · rw [if_pos g2, if_neg (by omega)]
    · rw [if_neg g2]
  · rw [if_neg g]
    by_cases g2 : c ≥ 97
    · rw [if_pos g2, if_neg (by omega)]
    · rw [if_neg g2]
def shortc (c : Int) : Bool := c == 34 || c == 92 || c == 47 || c == 98 || c == 102 || c == 110 || c == 114 || c == 116
theorem shortc_not (c : Int) : shortc c = false ↔ ¬ (c = 34 ∨ c = 92 ∨ c = 47 ∨ c = 98 ∨ c = 102 ∨ c = 110 ∨ c = 114 ∨ c = 116) := by
  simp [shortc, not_or, and_assoc]
theorem shortc_iff (c : Int) : shortc c = true ↔ (c = 34 ∨ c = 92 ∨ c = 47 ∨ c = 98 ∨ c = 102 ∨ c = 110 ∨ c = 114 ∨ c = 116) := by
  simp [shortc, or_assoc]
/-- A backslash and a byte, inside. -/
theorem str_bs {x0 : List Int} {i c : Int} {R : Int × Bool} (hl : (x0.length : Int) ≤ 100) (h0 : 0 ≤ i) (h1 : i + 1 < x0.length) (hb : rd x0 i = 92) (hc : rd x0 (i + 1) = c) (hj : Ev (fun k => gjson_validstring.j1 k x0 (i + 1) c (shortc c)) R) :
    Ev (fun k => gjson_validstring.l0 k x0 i) R := by
  have w : wrap64 (i + 1) = i + 1 := wr (by omega) (by omega)
  refine Ev.step (fun k => ?_) hj
  have e : (if c = 34 then (gjson_validstring.j1 k x0 (i + 1) c (c == 34)) else (if c = 92 then (gjson_validstring.j1 k x0 (i + 1) c (c == 92)) else (if c = 47 then (gjson_validstring.j1 k x0 (i + 1) c (c == 47)) else (if c = 98 then (gjson_validstring.j1 k x0 (i + 1) c (c == 98)) else (if c = 102 then (gjson_validstring.j1 k x0 (i + 1) c (c == 102)) else (if c = 110 then (gjson_validstring.j1 k x0 (i + 1) c (c == 110)) else (if c = 114 then (gjson_validstring.j1 k x0 (i + 1) c (c == 114)) else (gjson_validstring.j1 k x0 (i + 1) c (c == 116))))))))) = gjson_validstring.j1 k x0 (i + 1) c (shortc c) := by
    cases hs : shortc c with
    | true =>
      have := (shortc_iff c).1 hs
      repeat (split; · (rename_i h; rw [h]; rfl))
      have : c = 116 := by omega
      rw [this]; rfl
    | false =>
      have := (shortc_not c).1 hs
      rw [if_neg (by omega), if_neg (by omega), if_neg (by omega), if_neg (by omega), if_neg (by omega), if_neg (by omega), if_neg (by omega)]
      congr 1
      exact beq_eq_false_iff_ne.mpr (by omega)
  simp (disch := omega) only [gjson_validstring.l0, if_pos, if_neg, hb, w, hc]
  exact e
theorem str_end {x0 : List Int} {i : Int} (hl : (x0.length : Int) ≤ 100) (h0 : 0 ≤ i) (h1 : i < x0.length) (hb : rd x0 i = 34) : Ev (fun k => gjson_validstring.l0 k x0 i) (i + 1, true) := by
  have w : wrap64 (i + 1) = i + 1 := wr (by omega) (by omega)
  refine ev_one fun k => ?_
  simp (disch := omega) only [gjson_validstring.l0, if_pos, if_neg, hb, w, if_true]
/-- n hexadecimal digits more. -/
theorem str_hex {x0 : List Int} (hl : (x0.length : Int) ≤ 100) : ∀ (n : Nat) (i x : Int), 0 ≤ i → i + n + 1 < x0.length → 0 ≤ x → x + n = 4 →
    (∀ R, (∀ d : Nat, d < n → hexd (rd x0 (i + 1 + d)) = true) → Ev (fun k => gjson_validstring.l0 k x0 (i + n + 1)) R → Ev (fun k => gjson_validstring.l1 k x0 i x) R) ∧
    ((∃ d : Nat, d < n ∧ hexd (rd x0 (i + 1 + d)) = false) → ∃ p, Ev (fun k => gjson_validstring.l1 k x0 i x) (p, false))
  | 0, i, x, h0, h1, hx0, hx => by
    have w : wrap64 (i + 1) = i + 1 := wr (by omega) (by omega)
    refine ⟨fun R _ h => Ev.step (fun k => ?_) h, fun ⟨d, hd, _⟩ => by omega⟩
    simp (disch := omega) only [gjson_validstring.l1, if_neg, w]
    rw [show i + ((0 : Nat) : Int) + 1 = i + 1 by omega]
  | n + 1, i, x, h0, h1, hx0, hx => by
    have w : wrap64 (i + 1) = i + 1 := wr (by omega) (by omega)
    have w2 : wrap64 (x + 1) = x + 1 := wr (by omega) (by omega)
    have ih := str_hex hl n (i + 1) (x + 1) (by omega) (by omega) (by omega) (by omega)
    cases hc : hexd (rd x0 (i + 1)) with
    | true =>
      have st : ∀ k, gjson_validstring.l1 (k + 1) x0 i x = gjson_validstring.l1 k x0 (i + 1) (x + 1) := fun k => by
        simp (disch := omega) only [gjson_validstring.l1, if_pos, if_neg, w, w2, ishex_eq, Option.bind_some, hc, if_true]
      refine ⟨fun R hd h => Ev.step st (ih.1 R (fun d hd' => ?_) (by rw [show i + 1 + (n : Int) + 1 = i + ((n + 1 : Nat) : Int) + 1 by omega]; exact h)), fun ⟨d, hd, hf⟩ => ?_⟩
      · have := hd (d + 1) (by omega)
        rwa [show i + 1 + ((d + 1 : Nat) : Int) = i + 1 + 1 + (d : Int) by omega] at this
      · cases d with
        | zero =>
          rw [show i + 1 + ((0 : Nat) : Int) = i + 1 by omega, hc] at hf
          cases hf
        | succ d =>
          obtain ⟨p, hp⟩ := ih.2 ⟨d, by omega, by rwa [show i + 1 + ((d + 1 : Nat) : Int) = i + 1 + 1 + (d : Int) by omega] at hf⟩
          exact ⟨p, Ev.step st hp⟩
    | false =>
      refine ⟨fun R hd _ => ?_, fun _ => ⟨i + 1, ev_one fun k => ?_⟩⟩
      · have := hd 0 (by omega)
        rw [show i + 1 + ((0 : Nat) : Int) = i + 1 by omega, hc] at this
        cases this
      · simp (disch := omega) only [gjson_validstring.l1, if_pos, if_neg, w, ishex_eq, Option.bind_some, hc, Bool.false_eq_true, if_false]
/-- A text that begins with a quotation mark, as a whole. -/
theorem whole {s : ByteArray} {x0 : List Int} {p : Int} {ok : Bool} (hs : bytesOf s = x0) (hl : (x0.length : Int) ≤ 100) (h1 : 0 < (x0.length : Int)) (hb : rd x0 0 = 34) (hp : ok = true → p = x0.length) (h : Ev (fun k => gjson_validstring.l0 k x0 1) (p, ok)) : Ev (fun k => impl_GjValid.f k s) ok := by
  have w : wrap64 (0 + 1) = 1 := by unfold wrap64; omega
  have w1 : wrap64 (1 : Int) = 1 := by unfold wrap64; omega
  have hsz : s.size = x0.length := by rw [← bytesOf_length s, hs]
  have b13 : ((34 : Int) == 13) = false := rfl
  have hv : Ev (fun k => gjson_validstring.f k x0 1) (p, ok) := h
  have hj : Ev (fun k => gjson_validany.j1 k x0 0 34 false) (p, ok) := by
    refine Ev.step (f := fun k => (gjson_validstring.f k x0 1).bind fun b => some (b.1, b.2)) (fun k => ?_) (Ev.bind (f := fun _ b => some (b.1, b.2)) hv (ev_const fun _ => rfl))
    simp (disch := omega) only [gjson_validany.j1, Bool.false_eq_true, if_false, if_true, if_pos, if_neg, w, w1, Int.zero_add]
  have ha : Ev (fun k => gjson_validany.f k x0 0) (p, ok) := by
    refine Ev.step (g := fun k => gjson_validany.l0 k x0 0) (fun k => ?_) hj
    simp (disch := omega) only [gjson_validany.l0, if_pos, if_neg, hb, b13]
  have hpay : ∃ q, Ev (fun k => gjson_validpayload.f k x0 0) (q, ok) := by
    cases ok with
    | true =>
      have hpp := hp rfl
      subst hpp
      have e : Ev (fun k => gjson_validpayload.l1 k x0 x0.length) ((x0.length : Int), true) := ev_one fun k => by
        simp (disch := omega) only [gjson_validpayload.l1, if_neg]
      refine ⟨_, Ev.step (g := fun k => gjson_validpayload.l0 k x0 0) (f := fun k => gjson_validpayload.j1 k x0 0 false) (fun k => ?_) (Ev.step (f := fun k => (gjson_validany.f k x0 0).bind fun b => if b.2 = true then gjson_validpayload.l1 k x0 b.1 else some (b.1, false)) (fun k => ?_) (Ev.bind (f := fun k b => if b.2 = true then gjson_validpayload.l1 k x0 b.1 else some (b.1, false)) ha (by simpa only [if_true] using e)))⟩
      · simp (disch := omega) only [gjson_validpayload.l0, if_pos, if_neg, hb, b13]
      · simp only [gjson_validpayload.j1, Bool.false_eq_true, if_false]
    | false =>
      refine ⟨p, Ev.step (g := fun k => gjson_validpayload.l0 k x0 0) (f := fun k => gjson_validpayload.j1 k x0 0 false) (fun k => ?_) (Ev.step (f := fun k => (gjson_validany.f k x0 0).bind fun b => if b.2 = true then gjson_validpayload.l1 k x0 b.1 else some (b.1, false)) (fun k => ?_) (Ev.bind (f := fun k b => if b.2 = true then gjson_validpayload.l1 k x0 b.1 else some (b.1, false)) ha (ev_const fun _ => by simp only [Bool.false_eq_true, if_false])))⟩
      · simp (disch := omega) only [gjson_validpayload.l0, if_pos, if_neg, hb, b13]
      · simp only [gjson_validpayload.j1, Bool.false_eq_true, if_false]
  obtain ⟨q, hq⟩ := hpay
  have c1 : s.size ≤ 9223372036854775807 := by omega
  have hV : Ev (fun k => gjson_Valid.f k s) ok := by
    refine Ev.congr (f := fun k => (gjson_validpayload.f k x0 0).bind fun b => some b.2) (fun k => ?_) (Ev.bind (f := fun _ b => some b.2) hq (ev_const fun _ => rfl))
    simp only [gjson_Valid.f, gjson_stringBytes.f, if_pos c1, Option.bind_some, hs]
  exact Ev.bind (f := fun _ t => some t) hV (ev_const fun _ => rfl)
theorem letters {c four : Int} {L : List Int} (hL : L.length ≤ 8) {R : Bool} : ∀ (d i : Nat) (b : Bool), i + d = L.length →
    Ev (fun k => laws_FnGjValidEscape.l0 k c four (b || (L.drop i).any (fun x => c == x)) L L.length L.length) R → Ev (fun k => laws_FnGjValidEscape.l0 k c four b L L.length i) R
  | 0, i, b, hd, h => by
    rw [List.drop_eq_nil_of_le (by omega)] at h
    simpa [show i = L.length by omega] using h
  | d + 1, i, b, hd, h => by
    have hi : i < L.length := by omega
    have ih := letters hL (four := four) (c := c) (R := R) d (i + 1) (b || (c == L[i])) (by omega) (by
      rw [List.drop_eq_getElem_cons hi, List.any_cons, ← Bool.or_assoc] at h
      exact h)
    have w : wrap64 ((i : Int) + 1) = ((i + 1 : Nat) : Int) := by rw [wr (by omega) (by omega)]; omega
    have c1 : (i : Int) < L.length := by omega
    have c2 : 0 ≤ (i : Int) := by omega
    have hr : rd L i = L[i] := by simp [rd, List.getD_eq_getElem?_getD, hi]
    refine Ev.step (fun k => ?_) ih
    cases b with
    | true => simp only [laws_FnGjValidEscape.l0, if_pos c1, if_pos c2, if_true, w, Bool.true_or]
    | false => simp only [laws_FnGjValidEscape.l0, if_pos c1, if_pos c2, Bool.false_eq_true, if_false, w, hr, Bool.false_or]
theorem hexs {c : Int} {lt : Bool} {H L : List Int} (hL : L.length ≤ 8) {R : Bool} : ∀ (d i : Nat) (b : Bool), i + d = L.length →
    Ev (fun k => laws_FnGjValidEscape.l1 k c lt H (b && (L.drop i).all hexd) L L.length L.length) R → Ev (fun k => laws_FnGjValidEscape.l1 k c lt H b L L.length i) R
  | 0, i, b, hd, h => by
    rw [List.drop_eq_nil_of_le (by omega)] at h
    simpa [show i = L.length by omega] using h
  | d + 1, i, b, hd, h => by
    have hi : i < L.length := by omega
    have ih := hexs hL (c := c) (lt := lt) (H := H) (R := R) d (i + 1) (b && hexd L[i]) (by omega) (by
      rw [List.drop_eq_getElem_cons hi, List.all_cons, ← Bool.and_assoc] at h
      exact h)
    have w : wrap64 ((i : Int) + 1) = ((i + 1 : Nat) : Int) := by rw [wr (by omega) (by omega)]; omega
    have c1 : (i : Int) < L.length := by omega
    have c2 : 0 ≤ (i : Int) := by omega
    have hr : rd L i = L[i] := by simp [rd, List.getD_eq_getElem?_getD, hi]
    refine Ev.step (fun k => ?_) ih
    obtain ⟨v, hv⟩ : ∃ v, v = L[i] := ⟨_, rfl⟩
    rw [← hv] at hr ⊢
    cases b with
    | false => simp only [laws_FnGjValidEscape.l1, if_pos c1, if_pos c2, Bool.false_eq_true, if_false, w, Bool.false_and]
    | true =>
      simp only [laws_FnGjValidEscape.l1, if_pos c1, if_pos c2, if_true, w, hr, Bool.true_and]
      by_cases a : 48 ≤ v ∧ v ≤ 57
      · rw [if_pos a.1, if_pos a.2, (hexd_iff v).2 (.inl a)]
      by_cases a2 : 97 ≤ v ∧ v ≤ 102
      · rw [(hexd_iff v).2 (.inr (.inl a2))]
        simp (disch := omega) only [if_pos, if_neg, ite_self]
      have e2 : hexd v = decide (65 ≤ v ∧ v ≤ 70) := by
        rw [Bool.eq_iff_iff, hexd_iff]; simp only [decide_eq_true_iff]; omega
      have f : (if 65 ≤ v then (laws_FnGjValidEscape.l1 k c lt H (decide (v ≤ 70)) L L.length ((i + 1 : Nat) : Int)) else (laws_FnGjValidEscape.l1 k c lt H false L L.length ((i + 1 : Nat) : Int))) = laws_FnGjValidEscape.l1 k c lt H (hexd v) L L.length ((i + 1 : Nat) : Int) := by
        rw [e2]
        split
        · congr 1; rw [Bool.eq_iff_iff]; simp only [decide_eq_true_iff]; omega
        · rw [decide_eq_false (by omega)]
      rw [f]
      by_cases g : 48 ≤ v
      · rw [if_pos g, if_neg (by omega)]
        by_cases g2 : 97 ≤ v
        · rw [if_pos g2, if_neg (by omega)]
        · rw [if_neg g2]
      · rw [if_neg g]
        by_cases g2 : 97 ≤ v
        · rw [if_pos g2, if_neg (by omega)]
        · rw [if_neg g2]
theorem FnGjValidEscape : laws_FnGjValidEscape.Pure := by
  intro c four hc hf
  have hc' : 0 ≤ c ∧ c ≤ 255 := by simpa [Lit.wf, IntKind.min, IntKind.max, IntKind.signed, IntKind.bits] using hc
  refine Ev.rounds (g := fun k => laws_FnGjValidEscape.f k c four) ?_
  obtain ⟨H, hH⟩ : ∃ H : List Int, H = [(four / 16777216) % 256, (four / 65536) % 256, (four / 256) % 256, four % 256] := ⟨_, rfl⟩
  have hHB : IsB H := by
    intro x hx
    rw [hH] at hx
    simp only [List.mem_cons, List.not_mem_nil, or_false] at hx
    omega
  have hcB : IsB [c] := by
    intro x hx
    simp only [List.mem_singleton] at hx
    omega
  have hHl : H.length = 4 := by rw [hH]; rfl
  have sz1 : (strOfNums [c]).size = 1 := by rw [← bytesOf_length, bytesOf_str hcB]; rfl
  have sz2 : (strOfNums H).size = 4 := by rw [← bytesOf_length, bytesOf_str hHB]; exact hHl
  have b1 : bytesOf (((⟨#[34, 92]⟩ : ByteArray) ++ (strOfNums [c])) ++ (⟨#[34]⟩ : ByteArray)) = [34, 92, c, 34] := by rw [bytesOf_append, bytesOf_append, bytesOf_str hcB]; rfl
  have b2 : bytesOf (((⟨#[34, 92, 117]⟩ : ByteArray) ++ (strOfNums H)) ++ (⟨#[34]⟩ : ByteArray)) = 34 :: 92 :: 117 :: (H ++ [34]) := by rw [bytesOf_append, bytesOf_append, bytesOf_str hHB]; rfl
  -- one byte
  have v1 : Ev (fun k => impl_GjValid.f k (((⟨#[34, 92]⟩ : ByteArray) ++ (strOfNums [c])) ++ (⟨#[34]⟩ : ByteArray))) (shortc c) := by
    have w3 : wrap64 ((1 : Int) + 1 + 1) = 3 := by unfold wrap64; omega
    have r3 : rd [34, 92, c, 34] 3 = 34 := rfl
    have l4 : ((([34, 92, c, 34] : List Int).length : Nat) : Int) = 4 := rfl
    cases hs : shortc c with
    | true =>
      refine whole (p := 4) b1 (by rw [l4]; omega) (by rw [l4]; omega) rfl (fun _ => rfl) (str_bs (c := c) (by rw [l4]; omega) (by omega) (by rw [l4]; omega) rfl rfl ?_)
      rw [hs]
      have := str_end (x0 := [34, 92, c, 34]) (i := 3) (by rw [l4]; omega) (by omega) (by rw [l4]; omega) r3
      exact Ev.step (fun k => by simp only [gjson_validstring.j1, if_true, w3]) this
    | false =>
      obtain ⟨p, hp⟩ : ∃ p, Ev (fun k => gjson_validstring.j1 k [34, 92, c, 34] (1 + 1) c false) (p, false) := by
        by_cases hu : c = 117
        · have hx : hexd 34 = false := rfl
          have w3' : wrap64 ((1 : Int) + 1 + 1) = 1 + 1 + 1 := by unfold wrap64; omega
          have e : Ev (fun k => gjson_validstring.l1 k [34, 92, c, 34] (1 + 1) 0) ((1 : Int) + 1 + 1, false) := ev_one fun k => by
            have r : rd [34, 92, c, 34] (1 + 1 + 1) = 34 := rfl
            simp (disch := omega) only [gjson_validstring.l1, if_pos, if_neg, w3', l4, r, ishex_eq, Option.bind_some, hx, Bool.false_eq_true, if_false]
          exact ⟨_, Ev.step (fun k => by simp only [gjson_validstring.j1, Bool.false_eq_true, if_false, if_pos hu]) e⟩
        · exact ⟨1 + 1, ev_one fun k => by simp only [gjson_validstring.j1, Bool.false_eq_true, if_false, if_neg hu]⟩
      refine whole (p := p) b1 (by rw [l4]; omega) (by rw [l4]; omega) rfl (fun h => by cases h) (str_bs (c := c) (by rw [l4]; omega) (by omega) (by rw [l4]; omega) rfl rfl ?_)
      rw [hs]; exact hp
  -- four digits
  have v2 : Ev (fun k => impl_GjValid.f k (((⟨#[34, 92, 117]⟩ : ByteArray) ++ (strOfNums H)) ++ (⟨#[34]⟩ : ByteArray))) (H.all hexd) := by
    obtain ⟨x0, hx0⟩ : ∃ x0 : List Int, x0 = 34 :: 92 :: 117 :: (H ++ [34]) := ⟨_, rfl⟩
    have l8 : ((x0.length : Nat) : Int) = 8 := by rw [hx0]; simp [hHl]
    have rH : ∀ d : Nat, d < 4 → rd x0 ((1 : Int) + 1 + 1 + d) = H.getD d 0 := by
      intro d hd
      have e : ((1 : Int) + 1 + 1 + d).toNat = d + 3 := by omega
      simp only [rd, e, hx0]
      rw [List.getD_eq_getElem?_getD, List.getD_eq_getElem?_getD]
      simp only [List.getElem?_cons_succ]
      rw [List.getElem?_append_left (by omega)]
    have r7 : rd x0 7 = 34 := by rw [hx0, hH]; rfl
    have w3 : wrap64 ((1 : Int) + 1 + 1) = 3 := by unfold wrap64; omega
    have hs : shortc 117 = false := rfl
    rw [← hx0] at b2
    have hh := str_hex (x0 := x0) (by omega) 4 (1 + 1) 0 (by omega) (by omega) (by omega) (by omega)
    have r0 : rd x0 0 = 34 := by rw [hx0]; rfl
    have r1 : rd x0 1 = 92 := by rw [hx0]; rfl
    have r2 : rd x0 (1 + 1) = 117 := by rw [hx0]; rfl
    cases ha : H.all hexd with
    | true =>
      refine whole (p := 8) b2 (by omega) (by omega) r0 (fun _ => l8.symm) (str_bs (c := 117) (by omega) (by omega) (by omega) r1 r2 ?_)
      rw [hs]
      refine Ev.step (fun k => by simp only [gjson_validstring.j1, Bool.false_eq_true, if_false, if_true]) (hh.1 _ (fun d hd => ?_) ?_)
      · rw [rH d hd]
        have hd' : d < H.length := by omega
        have := List.all_eq_true.1 ha H[d] (List.getElem_mem hd')
        rw [List.getD_eq_getElem?_getD, List.getElem?_eq_getElem hd']
        exact this
      · have := str_end (x0 := x0) (i := 7) (by omega) (by omega) (by omega) r7
        exact this
    | false =>
      obtain ⟨p, hp⟩ := hh.2 (by
        obtain ⟨y, hy, hyf⟩ := List.all_eq_false.1 ha
        obtain ⟨d, hd, rfl⟩ := List.getElem_of_mem hy
        refine ⟨d, by omega, ?_⟩
        rw [rH d (by omega), List.getD_eq_getElem?_getD, List.getElem?_eq_getElem hd]
        simpa using hyf)
      refine whole (p := p) b2 (by omega) (by omega) r0 (fun h => by cases h) (str_bs (c := 117) (by omega) (by omega) (by omega) r1 r2 ?_)
      rw [hs]
      exact Ev.step (fun k => by simp only [gjson_validstring.j1, Bool.false_eq_true, if_false, if_true]) hp
  -- the law
  have e1 : (([34, 92, 47, 98, 102, 110, 114, 116] : List Int).drop 0).any (fun x => c == x) = shortc c := by
    simp only [List.drop_zero, List.any_cons, List.any_nil, Bool.or_false, shortc, Bool.or_assoc]
  have c8 : ¬ ((([34, 92, 47, 98, 102, 110, 114, 116] : List Int).length : Nat) : Int) < ((([34, 92, 47, 98, 102, 110, 114, 116] : List Int).length : Nat) : Int) := by omega
  have last : Ev (fun k => laws_FnGjValidEscape.l1 k c (shortc c) H (H.all hexd) H H.length H.length) true := by
    have c1 : ¬ ((H.length : Nat) : Int) < H.length := by omega
    have c2 : 2 + (strOfNums [c]).size ≤ 9223372036854775807 := by omega
    have c3 : 2 + (strOfNums [c]).size + 1 ≤ 9223372036854775807 := by omega
    have c4 : 3 + (strOfNums H).size ≤ 9223372036854775807 := by omega
    have c5 : 3 + (strOfNums H).size + 1 ≤ 9223372036854775807 := by omega
    refine Ev.step (f := fun k => ((impl_GjValid.f k (((⟨#[34, 92]⟩ : ByteArray) ++ (strOfNums [c])) ++ (⟨#[34]⟩ : ByteArray))).bind fun t146 => (if (t146 == shortc c) = true then ((impl_GjValid.f k (((⟨#[34, 92, 117]⟩ : ByteArray) ++ (strOfNums H)) ++ (⟨#[34]⟩ : ByteArray))).bind fun t147 => (some (t147 == H.all hexd))) else (some false)))) (fun k => by simp only [laws_FnGjValidEscape.l1, if_neg c1, Option.bind_some, if_pos c2, if_pos c3, if_pos c4, if_pos c5]) ?_
    refine Ev.bind (f := fun k t146 => (if (t146 == shortc c) = true then ((impl_GjValid.f k (((⟨#[34, 92, 117]⟩ : ByteArray) ++ (strOfNums H)) ++ (⟨#[34]⟩ : ByteArray))).bind fun t147 => (some (t147 == H.all hexd))) else (some false))) v1 ?_
    simp only [beq_self_eq_true, if_true]
    exact Ev.bind (f := fun _ t147 => some (t147 == H.all hexd)) v2 (ev_const fun _ => by rw [beq_self_eq_true])
  have mid : Ev (fun k => laws_FnGjValidEscape.l1 k c (shortc c) H true H H.length 0) true := by
    have := hexs (c := c) (lt := shortc c) (H := H) (L := H) (by omega) (R := true) 4 0 true (by omega) (by simpa using last)
    simpa using this
  have st := letters (c := c) (four := four) (L := [34, 92, 47, 98, 102, 110, 114, 116]) (R := true) (by decide) 8 0 false rfl (by
    rw [Bool.false_or, e1]
    refine Ev.step (fun k => ?_) mid
    simp only [laws_FnGjValidEscape.l0, if_neg c8, Option.bind_some, ← hH])
  refine Ev.congr (fun k => ?_) st
  simp only [laws_FnGjValidEscape.f, Option.bind_some]
  rfl
end Go.Proofs.Ytfpbbnllaogclaa.Pure
