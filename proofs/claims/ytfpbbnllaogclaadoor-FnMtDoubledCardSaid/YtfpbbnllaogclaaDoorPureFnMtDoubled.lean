/- A second star beside a star changes nothing, nor does the order of a star and a question mark; what two patterns match one behind the other, with a star between, is matched, under the law's own guards alone. -/
import Derived.Test.YtfpbbnllaogclaaDoorPAx0
import Derived.Test.YtfpbbnllaogclaaDoorPAx17
import Derived.Test.YtfpbbnllaogclaaDoorPAx20
import Derived.Test.YtfpbbnllaogclaaDoorPAx21
import Derived.Test.YtfpbbnllaogclaaDoorPAx22
import Derived.Test.YtfpbbnllaogclaaDoorPAx23
import Derived.Test.YtfpbbnllaogclaaDoorPAx24
import Derived.Test.YtfpbbnllaogclaaDoorPAx25
import Derived.Test.YtfpbbnllaogclaaDoorPAx6
import Derived.Test.YtfpbbnllaogclaaDoorPAx7
import Derived.Test.YtfpbbnllaogclaaDoorUMatch
namespace Go.Proofs.YtfpbbnllaogclaaDoor.Pure
open Go.RowKit Go.Proofs.YtfpbbnllaogclaaDoor.PA Go.Proofs.YtfpbbnllaogclaaDoor.J Go.Proofs.YtfpbbnllaogclaaDoorW.PrintWords Go.Proofs.YtfpbbnllaogclaaDoorW.PrintLast
set_option linter.unusedSimpArgs false
set_option linter.unusedVariables false
theorem chr_f {s : ByteArray} (hn : s.size ≤ 140737488351232) {i : Nat} (hi : (i : Int) < s.size) : ∃ R, Ev (fun k => spec_Character.f k s i) R ∧ (R.2.2 = true → ∃ c, Ch c R.1 ∧ (c.length : Int) = R.2.1 ∧ (bytesOf s).drop i = c ++ (bytesOf s).drop (i + c.length) ∧ i + c.length ≤ s.size) := by
  refine ⟨_, chr_ev hn (by omega) hi, fun h => ?_⟩
  cases hc : chr s i with
  | none => rw [hc] at h; cases h
  | some p =>
    obtain ⟨r, n⟩ := p
    obtain ⟨c, h1, h2, h3⟩ := chr_ch hi hc
    have hl := chr_len hi hc
    exact ⟨c, h1, h2, h3, by omega⟩
theorem chars_l0 {s : ByteArray} (hn : s.size ≤ 8192) : ∀ (d i : Nat) (x4 : List Int), i ≤ s.size → s.size - i ≤ d → x4.length ≤ i →
    ∃ R, Ev (fun k => spec_Characters.l0 k s x4 i) R ∧ (R.2 = true → ∃ rs, Tx ((bytesOf s).drop i) rs ∧ R.1 = x4 ++ rs) := by
  intro d
  induction d with
  | zero =>
    intro i x4 hi hd hx
    have c1 : ¬ (i : Int) < s.size := by omega
    refine ⟨(x4, true), ev_one fun k => by simp only [spec_Characters.l0, if_neg c1], fun _ => ⟨[], ?_, by simp⟩⟩
    rw [List.drop_eq_nil_of_le (by rw [bytesOf_length]; omega)]
    exact .nil
  | succ d ih =>
    intro i x4 hi hd hx
    by_cases c1 : (i : Int) < s.size
    · obtain ⟨⟨r, n, ok⟩, hR, hok⟩ := chr_f (s := s) (by omega) c1
      have st : ∀ k, spec_Characters.l0 (k + 1) s x4 i = (spec_Character.f k s i).bind fun b => if b.2.2 = true then (if x4.length < 17592186044416 then spec_Characters.l0 k s (x4 ++ [b.1]) (wrap64 ((i : Int) + b.2.1)) else none) else some (([] : List Int), false) := fun k => by simp only [spec_Characters.l0, if_pos c1]
      cases ok with
      | false => exact ⟨([], false), Ev.step st (Ev.bind (f := fun k b => if b.2.2 = true then (if x4.length < 17592186044416 then spec_Characters.l0 k s (x4 ++ [b.1]) (wrap64 ((i : Int) + b.2.1)) else none) else some (([] : List Int), false)) hR (ev_const fun _ => by simp only [Bool.false_eq_true, if_false])), fun h => by cases h⟩
      | true =>
        obtain ⟨c, hc, hl, hdr, hle⟩ := hok rfl
        have hcl := hc.len
        have c2 : x4.length < 17592186044416 := by omega
        have w : wrap64 ((i : Int) + n) = ((i + c.length : Nat) : Int) := by simp only at hl; rw [wr (by omega) (by omega)]; omega
        obtain ⟨R, h1, h2⟩ := ih (i + c.length) (x4 ++ [r]) (by omega) (by omega) (by simp; omega)
        refine ⟨R, Ev.step st (Ev.bind (f := fun k b => if b.2.2 = true then (if x4.length < 17592186044416 then spec_Characters.l0 k s (x4 ++ [b.1]) (wrap64 ((i : Int) + b.2.1)) else none) else some (([] : List Int), false)) hR ?_), fun h => ?_⟩
        · simpa only [if_true, if_pos c2, w] using h1
        · obtain ⟨rs, ht, he⟩ := h2 h
          exact ⟨r :: rs, by rw [hdr]; exact .cons hc ht, by rw [he]; simp⟩
    · refine ⟨(x4, true), ev_one fun k => by simp only [spec_Characters.l0, if_neg c1], fun _ => ⟨[], ?_, by simp⟩⟩
      rw [List.drop_eq_nil_of_le (by rw [bytesOf_length]; omega)]
      exact .nil
def toS : Tm → S114
  | .star => ⟨true, false, 0⟩
  | .one => ⟨false, true, 0⟩
  | .ch r => ⟨false, false, r⟩
theorem globs_l0 {s : ByteArray} (hn : s.size ≤ 8192) : ∀ (d i : Nat) (x4 : List S114), i ≤ s.size → s.size - i ≤ d → x4.length ≤ i →
    ∃ R, Ev (fun k => spec_Globs.l0 k s x4 i) R ∧ (R.2 = true → ∃ ts, Pt ((bytesOf s).drop i) ts ∧ R.1 = x4 ++ ts.map toS) := by
  intro d
  induction d with
  | zero =>
    intro i x4 hi hd hx
    have c1 : ¬ (i : Int) < s.size := by omega
    refine ⟨(x4, true), ev_one fun k => by simp only [spec_Globs.l0, if_neg c1], fun _ => ⟨[], ?_, by simp⟩⟩
    rw [List.drop_eq_nil_of_le (by rw [bytesOf_length]; omega)]
    exact .nil
  | succ d ih =>
    intro i x4 hi hd hx
    by_cases c1 : (i : Int) < s.size
    · obtain ⟨⟨r, n, ok⟩, hR, hok⟩ := chr_f (s := s) (by omega) c1
      have st : ∀ k, spec_Globs.l0 (k + 1) s x4 i = (spec_Character.f k s i).bind fun bt164 => (if bt164.2.2 = true then (if bt164.1 = 42 then (if x4.length < 8796093022208 then (spec_Globs.l0 k s (x4 ++ [toS .star]) (wrap64 ((i : Int) + bt164.2.1))) else (none)) else (if bt164.1 = 63 then (if x4.length < 8796093022208 then (spec_Globs.l0 k s (x4 ++ [toS .one]) (wrap64 ((i : Int) + bt164.2.1))) else (none)) else (if bt164.1 = 92 then (if (wrap64 ((i : Int) + bt164.2.1)) = (s.size : Int) then (some (([] : List (S114)), false)) else ((spec_Character.f k s (wrap64 ((i : Int) + bt164.2.1))).bind fun bt173 => (if bt173.2.2 = true then (if x4.length < 8796093022208 then (spec_Globs.l0 k s (x4 ++ [toS (.ch bt173.1)]) (wrap64 ((wrap64 ((i : Int) + bt164.2.1)) + bt173.2.1))) else (none)) else (some (([] : List (S114)), false))))) else (if x4.length < 8796093022208 then (spec_Globs.l0 k s (x4 ++ [toS (.ch bt164.1)]) (wrap64 ((i : Int) + bt164.2.1))) else (none))))) else (some (([] : List (S114)), false))) := fun k => by simp only [spec_Globs.l0, if_pos c1, toS]
      have bnd : ∀ {R}, Ev (fun k => (if ok = true then (if r = 42 then (if x4.length < 8796093022208 then (spec_Globs.l0 k s (x4 ++ [toS .star]) (wrap64 ((i : Int) + n))) else (none)) else (if r = 63 then (if x4.length < 8796093022208 then (spec_Globs.l0 k s (x4 ++ [toS .one]) (wrap64 ((i : Int) + n))) else (none)) else (if r = 92 then (if (wrap64 ((i : Int) + n)) = (s.size : Int) then (some (([] : List (S114)), false)) else ((spec_Character.f k s (wrap64 ((i : Int) + n))).bind fun bt173 => (if bt173.2.2 = true then (if x4.length < 8796093022208 then (spec_Globs.l0 k s (x4 ++ [toS (.ch bt173.1)]) (wrap64 ((wrap64 ((i : Int) + n)) + bt173.2.1))) else (none)) else (some (([] : List (S114)), false))))) else (if x4.length < 8796093022208 then (spec_Globs.l0 k s (x4 ++ [toS (.ch r)]) (wrap64 ((i : Int) + n))) else (none))))) else (some (([] : List (S114)), false)))) R → Ev (fun k => spec_Globs.l0 k s x4 i) R := fun {R} h =>
        Ev.step st (Ev.bind (f := fun k bt164 => (if bt164.2.2 = true then (if bt164.1 = 42 then (if x4.length < 8796093022208 then (spec_Globs.l0 k s (x4 ++ [toS .star]) (wrap64 ((i : Int) + bt164.2.1))) else (none)) else (if bt164.1 = 63 then (if x4.length < 8796093022208 then (spec_Globs.l0 k s (x4 ++ [toS .one]) (wrap64 ((i : Int) + bt164.2.1))) else (none)) else (if bt164.1 = 92 then (if (wrap64 ((i : Int) + bt164.2.1)) = (s.size : Int) then (some (([] : List (S114)), false)) else ((spec_Character.f k s (wrap64 ((i : Int) + bt164.2.1))).bind fun bt173 => (if bt173.2.2 = true then (if x4.length < 8796093022208 then (spec_Globs.l0 k s (x4 ++ [toS (.ch bt173.1)]) (wrap64 ((wrap64 ((i : Int) + bt164.2.1)) + bt173.2.1))) else (none)) else (some (([] : List (S114)), false))))) else (if x4.length < 8796093022208 then (spec_Globs.l0 k s (x4 ++ [toS (.ch bt164.1)]) (wrap64 ((i : Int) + bt164.2.1))) else (none))))) else (some (([] : List (S114)), false)))) hR h)
      cases ok with
      | false => exact ⟨([], false), bnd (ev_const fun _ => by simp only [Bool.false_eq_true, if_false]), fun h => by cases h⟩
      | true =>
        obtain ⟨c, hc, hl, hdr, hle⟩ := hok rfl
        simp only at hc hl
        have hcl := hc.len
        have c2 : x4.length < 8796093022208 := by omega
        have w : wrap64 ((i : Int) + n) = ((i + c.length : Nat) : Int) := by rw [wr (by omega) (by omega)]; omega
        have next : ∀ t, ∃ R, Ev (fun k => spec_Globs.l0 k s (x4 ++ [toS t]) ((i + c.length : Nat) : Int)) R ∧ (R.2 = true → ∃ ts, Pt ((bytesOf s).drop (i + c.length)) ts ∧ R.1 = (x4 ++ [toS t]) ++ ts.map toS) := fun t => ih (i + c.length) (x4 ++ [toS t]) (by omega) (by omega) (by simp; omega)
        have fin : ∀ (t : Tm) (R : List S114 × Bool), Pc c t → (R.2 = true → ∃ ts, Pt ((bytesOf s).drop (i + c.length)) ts ∧ R.1 = (x4 ++ [toS t]) ++ ts.map toS) → (R.2 = true → ∃ ts, Pt ((bytesOf s).drop i) ts ∧ R.1 = x4 ++ ts.map toS) := by
          intro t R hp h hr
          obtain ⟨ts, h1, h2⟩ := h hr
          exact ⟨t :: ts, by rw [hdr]; exact .cons hp h1, by rw [h2]; simp⟩
        by_cases k1 : r = 42
        · obtain ⟨R, h1, h2⟩ := next .star
          have : c = [42] := by subst k1; exact hc.inj ch42
          refine ⟨R, bnd ?_, fin .star R (by rw [this]; exact .star) h2⟩
          simpa only [if_true, if_pos k1, if_pos c2, w] using h1
        by_cases k2 : r = 63
        · obtain ⟨R, h1, h2⟩ := next .one
          have : c = [63] := by subst k2; exact hc.inj ch63
          refine ⟨R, bnd ?_, fin .one R (by rw [this]; exact .one) h2⟩
          simpa only [if_true, if_neg k1, if_pos k2, if_pos c2, w] using h1
        by_cases k3 : r = 92
        · have hc92 : c = [92] := by subst k3; exact hc.inj ch92
          by_cases k4 : ((i + c.length : Nat) : Int) = s.size
          · exact ⟨([], false), bnd (ev_const fun _ => by simp only [if_true, if_neg k1, if_neg k2, if_pos k3, w, if_pos k4]), fun h => by cases h⟩
          · obtain ⟨⟨r2, n2, ok2⟩, hR2, hok2⟩ := chr_f (s := s) (i := i + c.length) (by omega) (by omega)
            have bnd2 : ∀ {R}, Ev (fun k => if ok2 = true then (if x4.length < 8796093022208 then (spec_Globs.l0 k s (x4 ++ [toS (.ch r2)]) (wrap64 (((i + c.length : Nat) : Int) + n2))) else (none)) else (some (([] : List (S114)), false))) R → Ev (fun k => spec_Globs.l0 k s x4 i) R := fun {R} h => by
              refine bnd ?_
              simp only [if_true, if_neg k1, if_neg k2, if_pos k3, w, if_neg k4]
              exact Ev.bind (f := fun k bt173 => (if bt173.2.2 = true then (if x4.length < 8796093022208 then (spec_Globs.l0 k s (x4 ++ [toS (.ch bt173.1)]) (wrap64 (((i + c.length : Nat) : Int) + bt173.2.1))) else (none)) else (some (([] : List (S114)), false)))) hR2 h
            cases ok2 with
            | false => exact ⟨([], false), bnd2 (ev_const fun _ => by simp only [Bool.false_eq_true, if_false]), fun h => by cases h⟩
            | true =>
              obtain ⟨c', hc', hl', hdr', hle'⟩ := hok2 rfl
              simp only at hc' hl'
              have hcl' := hc'.len
              have w2 : wrap64 (((i + c.length : Nat) : Int) + n2) = ((i + c.length + c'.length : Nat) : Int) := by rw [wr (by omega) (by omega)]; omega
              obtain ⟨R, h1, h2⟩ := ih (i + c.length + c'.length) (x4 ++ [toS (.ch r2)]) (by omega) (by omega) (by simp; omega)
              refine ⟨R, bnd2 ?_, fun hr => ?_⟩
              · simpa only [if_true, if_pos c2, w2] using h1
              · obtain ⟨ts, g1, g2⟩ := h2 hr
                refine ⟨.ch r2 :: ts, ?_, by rw [g2]; simp⟩
                rw [hdr, hdr', hc92]
                have := Pt.cons (Pc.esc hc') g1
                rw [hc92] at this
                simpa using this
        · obtain ⟨R, h1, h2⟩ := next (.ch r)
          refine ⟨R, bnd ?_, fin (.ch r) R (.plain hc k1 k2 k3) h2⟩
          simpa only [if_true, if_neg k1, if_neg k2, if_neg k3, if_pos c2, w] using h1
    · refine ⟨(x4, true), ev_one fun k => by simp only [spec_Globs.l0, if_neg c1], fun _ => ⟨[], ?_, by simp⟩⟩
      rw [List.drop_eq_nil_of_le (by rw [bytesOf_length]; omega)]
      exact .nil
/-! the places that can be reached -/
theorem gm_grow {ps : List Tm} {cs : List Int} {c : Int} (h : GM (ps ++ [.star]) cs) : GM (ps ++ [.star]) (cs ++ [c]) := by
  obtain ⟨a, b, rfl, h1, h2⟩ := gm_append.1 h
  exact gm_append.2 ⟨a, b ++ [c], by rw [List.append_assoc], h1, gm_all _⟩
theorem take_snoc (cs : List Int) (i : Nat) (h : i < cs.length) : cs.take (i + 1) = cs.take i ++ [rd cs i] := by
  rw [List.take_succ_eq_append_getElem h]
  congr 2
  simp [rd, List.getD_eq_getElem?_getD, h]
theorem getD_set (l : List Bool) (i j : Nat) (b : Bool) (hi : i < l.length) : (l.set i b).getD j false = if j = i then b else l.getD j false := by
  rw [List.getD_eq_getElem?_getD, List.getElem?_set, List.getD_eq_getElem?_getD]
  by_cases h : j = i
  · subst h; simp [hi]
  · rw [if_neg (fun e => h e.symm), if_neg h]
def Good (ts : List Tm) (cs : List Int) (row : List Bool) : Prop := row.length = cs.length + 1 ∧ ∀ j, j ≤ cs.length → row.getD j false = true → GM ts (cs.take j)
theorem fit_row {cs : List Int} (hn : cs.length ≤ 8192) {ts : List Tm} {r : List Bool} {x16 : List S114} {x17 x18 : Int} {t : Tm} {Q : Bool → Prop} (hr : Good ts cs r)
    (hgo : ∀ row', Good (ts ++ [t]) cs row' → ∃ b, Ev (fun k => spec_Fits.l0 k cs row' x16 x17 (wrap64 (x18 + 1))) b ∧ Q b) :
    ∀ (d i : Nat) (row : List Bool), i + d = cs.length + 1 → row.length = cs.length + 1 → (∀ j, j < i → row.getD j false = true → GM (ts ++ [t]) (cs.take j)) → (∀ j, i ≤ j → row.getD j false = false) →
      ∃ b, Ev (fun k => spec_Fits.l1 k cs r row i x16 x17 x18 (toS t).f0 (toS t).f1 (toS t).f2) b ∧ Q b := by
  intro d
  induction d with
  | zero =>
    intro i row hd hl hlo hhi
    have c1 : ¬ (i : Int) ≤ cs.length := by omega
    obtain ⟨b, hb, hq⟩ := hgo row ⟨hl, fun j hj h => hlo j (by omega) h⟩
    exact ⟨b, Ev.step (fun k => by simp only [spec_Fits.l1, if_neg c1]) hb, hq⟩
  | succ d ih =>
    intro i row hd hl hlo hhi
    have c1 : (i : Int) ≤ cs.length := by omega
    have c2 : 0 ≤ (i : Int) := by omega
    have c3 : (i : Int) < r.length := by rw [hr.1]; omega
    have c4 : (i : Int) < row.length := by rw [hl]; omega
    have w : wrap64 ((i : Int) + 1) = ((i + 1 : Nat) : Int) := by rw [wr (by omega) (by omega)]; omega
    have rdi : ∀ (l : List Bool) (j : Nat), rdOf false l (j : Int) = l.getD j false := fun l j => by simp [rdOf]
    -- a bit that is right may be set
    have put : ∀ v : Bool, (v = true → GM (ts ++ [t]) (cs.take i)) → ∃ b, Ev (fun k => spec_Fits.l1 k cs r (row.set i v) ((i + 1 : Nat) : Int) x16 x17 x18 (toS t).f0 (toS t).f1 (toS t).f2) b ∧ Q b := by
      intro v hv
      refine ih (i + 1) (row.set i v) (by omega) (by rw [List.length_set, hl]) (fun j hj h => ?_) (fun j hj => ?_)
      · rw [getD_set _ _ _ _ (by rw [hl]; omega)] at h
        split at h
        · rename_i e; rw [e]; exact hv h
        · exact hlo j (by omega) h
      · rw [getD_set _ _ _ _ (by rw [hl]; omega), if_neg (by omega)]
        exact hhi j (by omega)
    have pass : ∃ b, Ev (fun k => spec_Fits.l1 k cs r row ((i + 1 : Nat) : Int) x16 x17 x18 (toS t).f0 (toS t).f1 (toS t).f2) b ∧ Q b := by
      refine ih (i + 1) row (by omega) hl (fun j hj h => ?_) (fun j hj => hhi j (by omega))
      by_cases e : j = i
      · rw [e, hhi i (Nat.le_refl _)] at h; cases h
      · exact hlo j (by omega) h
    have tn : ((i : Int)).toNat = i := Int.toNat_natCast i
    cases t with
    | star =>
      by_cases k1 : r.getD i false = true
      · obtain ⟨b, hb, hq⟩ := put true (fun _ => gm_append.2 ⟨cs.take i, [], by simp, hr.2 i (by omega) k1, gm_all []⟩)
        refine ⟨b, Ev.step (fun k => ?_) hb, hq⟩
        simp only [spec_Fits.l1, toS, if_pos c1, if_true, if_pos c2, if_pos c3, rdi, if_pos k1, if_pos c4, w, tn]
      · by_cases k2 : (i : Int) > 0
        · obtain ⟨j, rfl⟩ : ∃ j, i = j + 1 := ⟨i - 1, by omega⟩
          have w2 : wrap64 (((j + 1 : Nat) : Int) - 1) = (j : Int) := by rw [wr (by omega) (by omega)]; omega
          have c5 : 0 ≤ (j : Int) := by omega
          have c6 : (j : Int) < row.length := by rw [hl]; omega
          obtain ⟨b, hb, hq⟩ := put (row.getD j false) (fun h => by rw [take_snoc cs j (by omega)]; exact gm_grow (hlo j (by omega) h))
          refine ⟨b, Ev.step (fun k => ?_) hb, hq⟩
          simp only [spec_Fits.l1, toS, if_pos c1, if_true, if_pos c2, if_pos c3, rdi, if_neg k1, if_pos k2, w2, if_pos c5, if_pos c6, if_pos c4, w, tn]
        · obtain ⟨b, hb, hq⟩ := put false (fun h => by cases h)
          refine ⟨b, Ev.step (fun k => ?_) hb, hq⟩
          simp only [spec_Fits.l1, toS, if_pos c1, if_true, if_pos c2, if_pos c3, rdi, if_neg k1, if_neg k2, if_pos c4, w, tn]
    | one =>
      by_cases k2 : (i : Int) > 0
      · obtain ⟨j, rfl⟩ : ∃ j, i = j + 1 := ⟨i - 1, by omega⟩
        have w2 : wrap64 (((j + 1 : Nat) : Int) - 1) = (j : Int) := by rw [wr (by omega) (by omega)]; omega
        have c5 : 0 ≤ (j : Int) := by omega
        have c6 : (j : Int) < r.length := by rw [hr.1]; omega
        by_cases k3 : r.getD j false = true
        · obtain ⟨b, hb, hq⟩ := put true (fun _ => by rw [take_snoc cs j (by omega)]; exact gm_snoc_one.2 (hr.2 j (by omega) k3))
          refine ⟨b, Ev.step (fun k => ?_) hb, hq⟩
          simp only [spec_Fits.l1, toS, if_pos c1, Bool.false_eq_true, if_false, if_true, if_pos k2, w2, if_pos c5, if_pos c6, rdi, if_pos k3, if_pos c2, if_pos c4, w, tn]
        · obtain ⟨b, hb, hq⟩ := pass
          refine ⟨b, Ev.step (fun k => ?_) hb, hq⟩
          simp only [spec_Fits.l1, toS, if_pos c1, Bool.false_eq_true, if_false, if_true, if_pos k2, w2, if_pos c5, if_pos c6, rdi, if_neg k3, w]
      · obtain ⟨b, hb, hq⟩ := pass
        refine ⟨b, Ev.step (fun k => ?_) hb, hq⟩
        simp only [spec_Fits.l1, toS, if_pos c1, Bool.false_eq_true, if_false, if_neg k2, w]
    | ch q =>
      by_cases k2 : (i : Int) > 0
      · obtain ⟨j, rfl⟩ : ∃ j, i = j + 1 := ⟨i - 1, by omega⟩
        have w2 : wrap64 (((j + 1 : Nat) : Int) - 1) = (j : Int) := by rw [wr (by omega) (by omega)]; omega
        have c5 : 0 ≤ (j : Int) := by omega
        have c6 : (j : Int) < r.length := by rw [hr.1]; omega
        have c7 : (j : Int) < cs.length := by omega
        by_cases k3 : r.getD j false = true
        · obtain ⟨b, hb, hq⟩ := put (q == rd cs j) (fun h => by rw [take_snoc cs j (by omega)]; exact gm_snoc_ch.2 ⟨by simpa using h, hr.2 j (by omega) k3⟩)
          refine ⟨b, Ev.step (fun k => ?_) hb, hq⟩
          simp only [spec_Fits.l1, toS, if_pos c1, Bool.false_eq_true, if_false, if_pos k2, w2, if_pos c5, if_pos c6, rdi, if_pos k3, if_pos c7, if_pos c2, if_pos c4, w, tn]
        · obtain ⟨b, hb, hq⟩ := pass
          refine ⟨b, Ev.step (fun k => ?_) hb, hq⟩
          simp only [spec_Fits.l1, toS, if_pos c1, Bool.false_eq_true, if_false, if_pos k2, w2, if_pos c5, if_pos c6, rdi, if_neg k3, w]
      · obtain ⟨b, hb, hq⟩ := pass
        refine ⟨b, Ev.step (fun k => ?_) hb, hq⟩
        simp only [spec_Fits.l1, toS, if_pos c1, Bool.false_eq_true, if_false, if_neg k2, w]
theorem fits_l0 {cs : List Int} (hn : cs.length ≤ 8192) {ts : List Tm} (ht : ts.length ≤ 8192) : ∀ (d i : Nat) (row : List Bool), i + d = ts.length → Good (ts.take i) cs row →
    ∃ b, Ev (fun k => spec_Fits.l0 k cs row (ts.map toS) ts.length i) b ∧ (b = true → GM ts cs) := by
  intro d
  induction d with
  | zero =>
    intro i row hd hg
    have c1 : ¬ (i : Int) < ts.length := by omega
    have c2 : 0 ≤ (cs.length : Int) := by omega
    have c3 : (cs.length : Int) < row.length := by rw [hg.1]; omega
    refine ⟨rdOf false row (cs.length : Int), ev_one fun k => by simp only [spec_Fits.l0, if_neg c1, if_pos c2, if_pos c3], fun h => ?_⟩
    have := hg.2 cs.length (Nat.le_refl _) (by simpa [rdOf] using h)
    rw [List.take_of_length_le (by omega), List.take_length] at this
    exact this
  | succ d ih =>
    intro i row hd hg
    have c1 : (i : Int) < ts.length := by omega
    have c2 : 0 ≤ (i : Int) := by omega
    have c3 : (i : Int) < ((ts.map toS).length : Nat) := by rw [List.length_map]; omega
    have w1 : wrap64 ((cs.length : Int) + 1) = (cs.length : Int) + 1 := wr (by omega) (by omega)
    have c4 : 0 ≤ (cs.length : Int) + 1 := by omega
    have c5 : ((cs.length : Int) + 1).toNat ≤ 281474976710656 := by omega
    have hi : i < ts.length := by omega
    have hrd : rd_T114 (ts.map toS) i = toS ts[i] := by
      unfold rd_T114
      rw [Int.toNat_natCast, List.getD_eq_getElem?_getD, List.getElem?_map, List.getElem?_eq_getElem hi]
      rfl
    have w2 : wrap64 ((i : Int) + 1) = ((i + 1 : Nat) : Int) := by rw [wr (by omega) (by omega)]; omega
    have ht1 : ts.take i ++ [ts[i]] = ts.take (i + 1) := (List.take_succ_eq_append_getElem hi).symm
    obtain ⟨b, hb, hq⟩ := fit_row hn (Q := fun b => b = true → GM ts cs) (x16 := ts.map toS) (x17 := ts.length) (x18 := i) (t := ts[i]) hg (fun row' hg' => by
      rw [w2]
      exact ih (i + 1) row' (by omega) (by rw [← ht1]; exact hg')) (cs.length + 1) 0 (List.replicate (cs.length + 1) false) (by omega) (by simp) (fun j hj => by omega) (fun j _ => by
        rw [List.getD_eq_getElem?_getD, List.getElem?_replicate]
        split <;> rfl)
    refine ⟨b, Ev.step (fun k => ?_) hb, hq⟩
    have e : ((cs.length : Int) + 1).toNat = cs.length + 1 := by omega
    rw [e] at c5
    simp only [spec_Fits.l0, if_pos c1, if_pos c2, if_pos c3, w1, if_pos c4, e, if_pos c5, hrd]
    rfl
theorem fits_ev {cs : List Int} (hn : cs.length ≤ 8192) {ts : List Tm} (ht : ts.length ≤ 8192) : ∃ b, Ev (fun k => spec_Fits.f k cs (ts.map toS)) b ∧ (b = true → GM ts cs) := by
  have hg : Good (ts.take 0) cs ((List.replicate (cs.length + 1) false).set 0 true) := by
    refine ⟨by simp, fun j hj h => ?_⟩
    rw [getD_set _ _ _ _ (by simp)] at h
    split at h
    · rename_i e; subst e; exact .nil
    · rw [List.getD_eq_getElem?_getD, List.getElem?_replicate] at h
      split at h <;> cases h
  obtain ⟨b, hb, hq⟩ := fits_l0 hn ht ts.length 0 _ (by omega) hg
  have w1 : wrap64 ((cs.length : Int) + 1) = (cs.length : Int) + 1 := wr (by omega) (by omega)
  have c4 : 0 ≤ (cs.length : Int) + 1 := by omega
  have e : ((cs.length : Int) + 1).toNat = cs.length + 1 := by omega
  have c5 : cs.length + 1 ≤ 281474976710656 := by omega
  have c6 : 0 < ((List.replicate (cs.length + 1) false).length : Int) := by rw [List.length_replicate]; omega
  refine ⟨b, Ev.congr (fun k => ?_) hb, hq⟩
  simp only [spec_Fits.f, w1, if_pos c4, e, if_pos c5, Option.bind_some, if_pos c6, List.length_map]
  rfl
/-- What is told of a text and a pattern. -/
theorem told_ev {s p : ByteArray} (hs : s.size ≤ 140737488351232) (hp : p.size ≤ 140737488351232) : ∃ R, Ev (fun k => laws_mtTold.f k s p) R ∧ (R.2 = true → s.size ≤ 4096 ∧ p.size ≤ 4096 ∧ ∃ cs ts, Tx (bytesOf s) cs ∧ Pt (bytesOf p) ts ∧ (R.1 = true → GM ts cs)) := by
  by_cases c1 : (s.size : Int) > 4096
  · exact ⟨(false, false), ev_const fun k => by simp only [laws_mtTold.f, if_pos c1], fun h => by cases h⟩
  by_cases c2 : (p.size : Int) > 4096
  · exact ⟨(false, false), ev_const fun k => by simp only [laws_mtTold.f, if_neg c1, if_pos c2], fun h => by cases h⟩
  obtain ⟨⟨cs, ok⟩, h1, h2⟩ := chars_l0 (s := s) (by omega) s.size 0 [] (by omega) (by omega) (by simp)
  obtain ⟨⟨gs, is⟩, g1, g2⟩ := globs_l0 (s := p) (by omega) p.size 0 [] (by omega) (by omega) (by simp)
  have h1' : Ev (fun k => spec_Characters.f k s) (cs, ok) := h1
  have g1' : Ev (fun k => spec_Globs.f k p) (gs, is) := g1
  have top : ∀ R : Bool × Bool, Ev (fun k => if ok = true then (if is = true then ((spec_Fits.f k cs gs).bind fun t209 => (some (t209, true))) else (some (false, false))) else (some (false, false))) R → Ev (fun k => laws_mtTold.f k s p) R := by
    intro R h
    have hm : Ev (fun k => spec_Matches.f k s p) R := by
      refine Ev.congr (f := fun k => (spec_Characters.f k s).bind fun bt201 => ((spec_Globs.f k p).bind fun bt205 => (if bt201.2 = true then (if bt205.2 = true then ((spec_Fits.f k bt201.1 bt205.1).bind fun t209 => (some (t209, true))) else (some (false, false))) else (some (false, false))))) (fun k => rfl) ?_
      exact Ev.bind (f := fun k bt201 => ((spec_Globs.f k p).bind fun bt205 => (if bt201.2 = true then (if bt205.2 = true then ((spec_Fits.f k bt201.1 bt205.1).bind fun t209 => (some (t209, true))) else (some (false, false))) else (some (false, false))))) h1' (Ev.bind (f := fun k bt205 => (if ok = true then (if bt205.2 = true then ((spec_Fits.f k cs bt205.1).bind fun t209 => (some (t209, true))) else (some (false, false))) else (some (false, false)))) g1' h)
    refine Ev.congr (f := fun k => (spec_Matches.f k s p).bind fun b => some (b.1, b.2)) (fun k => by simp only [laws_mtTold.f, if_neg c1, if_neg c2]) ?_
    exact Ev.bind (f := fun _ b => some (b.1, b.2)) hm (ev_const fun _ => rfl)
  cases ok with
  | false => exact ⟨(false, false), top _ (ev_const fun _ => by simp only [Bool.false_eq_true, if_false]), fun h => by cases h⟩
  | true =>
    cases is with
    | false => exact ⟨(false, false), top _ (ev_const fun _ => by simp only [Bool.false_eq_true, if_false, if_true]), fun h => by cases h⟩
    | true =>
      obtain ⟨rs, t1, t2⟩ := h2 rfl
      obtain ⟨ts, p1, p2⟩ := g2 rfl
      simp only [List.nil_append] at t2 p2
      subst t2 p2
      rw [List.drop_zero] at t1 p1
      have l1 := t1.len
      have l2 := p1.len
      rw [bytesOf_length] at l1 l2
      obtain ⟨b, hb, hq⟩ := fits_ev (cs := cs) (ts := ts) (by omega) (by omega)
      refine ⟨(b, true), top _ ?_, fun _ => ⟨by omega, by omega, cs, ts, t1, p1, hq⟩⟩
      simp only [if_true]
      exact Ev.bind (f := fun _ t => some (t, true)) hb (ev_const fun _ => rfl)
theorem gm_congr {ps X Y : List Tm} (h : ∀ b, GM X b ↔ GM Y b) (cs : List Int) : GM (ps ++ X) cs ↔ GM (ps ++ Y) cs := by
  rw [gm_append, gm_append]
  constructor
  · rintro ⟨a, b, e, h1, h2⟩; exact ⟨a, b, e, h1, (h b).1 h2⟩
  · rintro ⟨a, b, e, h1, h2⟩; exact ⟨a, b, e, h1, (h b).2 h2⟩
theorem gm_swap {ps : List Tm} (cs : List Int) : GM (.star :: .one :: ps) cs ↔ GM (.one :: .star :: ps) cs := by
  constructor
  · intro h
    obtain ⟨a, b, rfl, h1⟩ := gm_star.1 h
    obtain ⟨c, t, rfl, h2⟩ := gm_one.1 h1
    cases a with
    | nil => exact gm_one.2 ⟨c, t, rfl, gm_star.2 ⟨[], t, rfl, h2⟩⟩
    | cons x a => exact gm_one.2 ⟨x, a ++ c :: t, rfl, gm_star.2 ⟨a ++ [c], t, by simp, h2⟩⟩
  · intro h
    obtain ⟨c, t, rfl, h1⟩ := gm_one.1 h
    obtain ⟨a, b, rfl, h2⟩ := gm_star.1 h1
    rcases List.eq_nil_or_concat a with rfl | ⟨a', z, rfl⟩
    · exact gm_star.2 ⟨[], _, rfl, gm_one.2 ⟨c, b, rfl, h2⟩⟩
    · exact gm_star.2 ⟨c :: a', z :: b, by simp, gm_one.2 ⟨z, b, rfl, h2⟩⟩
theorem FnMtDoubled : laws_FnMtDoubled.Pure := by
  intro s p t q z hs hp ht hq hz
  have t1 : ∀ a b, Ev (fun k => laws_FnMtDoubled.j1 k s p t q z a b true) true := fun a b => ev_one fun k => by simp only [laws_FnMtDoubled.j1, if_true]
  have t0 : Ev (fun k => laws_FnMtDoubled.j0 k s p t q z true) true := ev_one fun k => by simp only [laws_FnMtDoubled.j0, if_true]
  suffices h : Ev (fun k => laws_FnMtDoubled.j0 k s p t q z false) true by
    refine Ev.rounds (g := fun k => laws_FnMtDoubled.f k s p t q z) ?_
    by_cases c1 : (s.size : Int) > 2147483647
    · exact Ev.congr (fun k => by simp only [laws_FnMtDoubled.f, if_pos c1]) t0
    by_cases c2 : (p.size : Int) > 2147483647
    · exact Ev.congr (fun k => by simp only [laws_FnMtDoubled.f, if_neg c1, if_pos c2]) t0
    by_cases c3 : (t.size : Int) > 2147483647
    · exact Ev.congr (fun k => by simp only [laws_FnMtDoubled.f, if_neg c1, if_neg c2, if_pos c3]) t0
    by_cases c4 : (q.size : Int) > 2147483647
    · exact Ev.congr (fun k => by simp only [laws_FnMtDoubled.f, if_neg c1, if_neg c2, if_neg c3, if_pos c4]) t0
    by_cases c5 : (z.size : Int) > 2147483647
    · exact Ev.congr (fun k => by simp only [laws_FnMtDoubled.f, if_neg c1, if_neg c2, if_neg c3, if_neg c4, decide_eq_true c5]) t0
    · exact Ev.congr (fun k => by simp only [laws_FnMtDoubled.f, if_neg c1, if_neg c2, if_neg c3, if_neg c4, decide_eq_false c5]) h
  obtain ⟨⟨fits, good⟩, e1, g1⟩ := told_ev hs hp
  obtain ⟨⟨fit, fine⟩, e2, g2⟩ := told_ev ht hq
  refine Ev.step (f := fun k => ((laws_mtTold.f k s p).bind fun bt212 => ((laws_mtTold.f k t q).bind fun bt214 => (if bt212.2 = true then (if bt214.2 = true then (if (z.size : Int) > 4096 then (laws_FnMtDoubled.j1 k s p t q z bt212.1 bt214.1 true) else ((spec_UTF8.f k z).bind fun t216 => (laws_FnMtDoubled.j1 k s p t q z bt212.1 bt214.1 (!t216)))) else (laws_FnMtDoubled.j1 k s p t q z bt212.1 bt214.1 true)) else (laws_FnMtDoubled.j1 k s p t q z bt212.1 bt214.1 true))))) (fun k => by simp only [laws_FnMtDoubled.j0, Bool.false_eq_true, if_false]) ?_
  refine Ev.bind (f := fun k bt212 => ((laws_mtTold.f k t q).bind fun bt214 => (if bt212.2 = true then (if bt214.2 = true then (if (z.size : Int) > 4096 then (laws_FnMtDoubled.j1 k s p t q z bt212.1 bt214.1 true) else ((spec_UTF8.f k z).bind fun t216 => (laws_FnMtDoubled.j1 k s p t q z bt212.1 bt214.1 (!t216)))) else (laws_FnMtDoubled.j1 k s p t q z bt212.1 bt214.1 true)) else (laws_FnMtDoubled.j1 k s p t q z bt212.1 bt214.1 true)))) e1 ?_
  refine Ev.bind (f := fun k bt214 => (if good = true then (if bt214.2 = true then (if (z.size : Int) > 4096 then (laws_FnMtDoubled.j1 k s p t q z fits bt214.1 true) else ((spec_UTF8.f k z).bind fun t216 => (laws_FnMtDoubled.j1 k s p t q z fits bt214.1 (!t216)))) else (laws_FnMtDoubled.j1 k s p t q z fits bt214.1 true)) else (laws_FnMtDoubled.j1 k s p t q z fits bt214.1 true))) e2 ?_
  cases good with
  | false => simpa only [Bool.false_eq_true, if_false] using t1 fits fit
  | true =>
  cases fine with
  | false => simpa only [Bool.false_eq_true, if_false, if_true] using t1 fits fit
  | true =>
  simp only [if_true]
  by_cases c1 : (z.size : Int) > 4096
  · simpa only [if_pos c1] using t1 fits fit
  simp only [if_neg c1]
  obtain ⟨uz, ez, iz⟩ := utf_ev (s := z) hz
  refine Ev.bind (f := fun k t216 => laws_FnMtDoubled.j1 k s p t q z fits fit (!t216)) ez ?_
  cases uz with
  | false => exact t1 fits fit
  | true =>
  show Ev (fun k => laws_FnMtDoubled.j1 k s p t q z fits fit false) true
  obtain ⟨hs4, hp4, cs, ps, ts, pp, fs⟩ := g1 rfl
  obtain ⟨ht4, hq4, ds, qs, tt, pq, ft⟩ := g2 rfl
  obtain ⟨bs, tz⟩ := utf_text (iz.1 rfl)
  have hw : bytesOf ((s ++ z) ++ t) = (bytesOf s ++ bytesOf z) ++ bytesOf t := by rw [bytesOf_append, bytesOf_append]
  have hwz : ((s ++ z) ++ t).size ≤ 140737488351232 := by rw [ByteArray.size_append, ByteArray.size_append]; omega
  have tw : Tx (bytesOf ((s ++ z) ++ t)) ((cs ++ bs) ++ ds) := by rw [hw]; exact (ts.append tz).append tt
  have pat : ∀ (y : ByteArray) (l : List Int) (ms : List Tm), bytesOf y = l → y.size ≤ 2 → Pt l ms → ∃ b, Ev (fun k => impl_MtMatch.f k ((s ++ z) ++ t) ((p ++ y) ++ q)) b ∧ (b = true ↔ GM (ps ++ (ms ++ qs)) ((cs ++ bs) ++ ds)) := by
    intro y l ms hy hyz hm
    have e : bytesOf ((p ++ y) ++ q) = (bytesOf p ++ l) ++ bytesOf q := by rw [bytesOf_append, bytesOf_append, hy]
    refine mt_ev hwz (by rw [ByteArray.size_append, ByteArray.size_append]; omega) tw ?_
    rw [e, ← List.append_assoc ps]
    exact (pp.append hm).append pq
  obtain ⟨b1, m1, i1⟩ := pat (⟨#[42]⟩ : ByteArray) [42] [.star] rfl (by decide) (.one' .star)
  obtain ⟨b2, m2, i2⟩ := pat (⟨#[42, 42]⟩ : ByteArray) [42, 42] [.star, .star] rfl (by decide) (.cons .star (.one' .star))
  obtain ⟨b3, m3, i3⟩ := pat (⟨#[42, 63]⟩ : ByteArray) [42, 63] [.star, .one] rfl (by decide) (.cons .star (.one' .one))
  obtain ⟨b4, m4, i4⟩ := pat (⟨#[63, 42]⟩ : ByteArray) [63, 42] [.one, .star] rfl (by decide) (.cons .one (.one' .star))
  have e12 : b1 = b2 := by rw [Bool.eq_iff_iff, i1, i2]; exact gm_congr (fun b => gm_two.symm) _
  have e34 : b3 = b4 := by rw [Bool.eq_iff_iff, i3, i4]; exact gm_congr (fun b => gm_swap b) _
  have ef : b1 = false → fits = true → fit = false := by
    intro h1 h2
    cases hfit : fit with
    | false => rfl
    | true =>
      have ga := fs h2
      have gb := ft hfit
      have : b1 = true := i1.2 (gm_append.2 ⟨cs, bs ++ ds, by rw [List.append_assoc], ga, gm_star.2 ⟨bs, ds, rfl, gb⟩⟩)
      rw [h1] at this; cases this
  subst e12 e34
  have c2 : s.size + z.size ≤ 9223372036854775807 := by omega
  have c3 : s.size + z.size + t.size ≤ 9223372036854775807 := by omega
  have c4 : p.size + 1 ≤ 9223372036854775807 := by omega
  have c5 : p.size + 1 + q.size ≤ 9223372036854775807 := by omega
  have c6 : p.size + 2 ≤ 9223372036854775807 := by omega
  have c7 : p.size + 2 + q.size ≤ 9223372036854775807 := by omega
  refine Ev.step (f := fun k => ((impl_MtMatch.f k ((s ++ z) ++ t) ((p ++ (⟨#[42]⟩ : ByteArray)) ++ q)).bind fun t217 => ((impl_MtMatch.f k ((s ++ z) ++ t) ((p ++ (⟨#[42, 42]⟩ : ByteArray)) ++ q)).bind fun t218 => (if (t217 != t218) = true then (some false) else ((impl_MtMatch.f k ((s ++ z) ++ t) ((p ++ (⟨#[42, 63]⟩ : ByteArray)) ++ q)).bind fun t219 => ((impl_MtMatch.f k ((s ++ z) ++ t) ((p ++ (⟨#[63, 42]⟩ : ByteArray)) ++ q)).bind fun t220 => (if (t219 != t220) = true then (some false) else (if t217 = true then (some true) else (if fits = true then (some (!fit)) else (some true)))))))))) (fun k => by simp only [laws_FnMtDoubled.j1, Bool.false_eq_true, if_false, if_pos c2, if_pos c3, if_pos c4, if_pos c5, if_pos c6, if_pos c7]) ?_
  refine Ev.bind (f := fun k t217 => ((impl_MtMatch.f k ((s ++ z) ++ t) ((p ++ (⟨#[42, 42]⟩ : ByteArray)) ++ q)).bind fun t218 => (if (t217 != t218) = true then (some false) else ((impl_MtMatch.f k ((s ++ z) ++ t) ((p ++ (⟨#[42, 63]⟩ : ByteArray)) ++ q)).bind fun t219 => ((impl_MtMatch.f k ((s ++ z) ++ t) ((p ++ (⟨#[63, 42]⟩ : ByteArray)) ++ q)).bind fun t220 => (if (t219 != t220) = true then (some false) else (if t217 = true then (some true) else (if fits = true then (some (!fit)) else (some true))))))))) m1 ?_
  refine Ev.bind (f := fun k t218 => (if (b1 != t218) = true then (some false) else ((impl_MtMatch.f k ((s ++ z) ++ t) ((p ++ (⟨#[42, 63]⟩ : ByteArray)) ++ q)).bind fun t219 => ((impl_MtMatch.f k ((s ++ z) ++ t) ((p ++ (⟨#[63, 42]⟩ : ByteArray)) ++ q)).bind fun t220 => (if (t219 != t220) = true then (some false) else (if b1 = true then (some true) else (if fits = true then (some (!fit)) else (some true)))))))) m2 ?_
  have n1 : ¬ ((b1 != b1) = true) := by simp
  have n3 : ¬ ((b3 != b3) = true) := by simp
  simp only [if_neg n1]
  refine Ev.bind (f := fun k t219 => ((impl_MtMatch.f k ((s ++ z) ++ t) ((p ++ (⟨#[63, 42]⟩ : ByteArray)) ++ q)).bind fun t220 => (if (t219 != t220) = true then (some false) else (if b1 = true then (some true) else (if fits = true then (some (!fit)) else (some true)))))) m3 ?_
  refine Ev.bind (f := fun k t220 => (if (b3 != t220) = true then (some false) else (if b1 = true then (some true) else (if fits = true then (some (!fit)) else (some true))))) m4 (ev_const fun _ => ?_)
  rw [if_neg n3]
  cases b1 with
  | true => rfl
  | false =>
    cases fits with
    | false => rfl
    | true => rw [ef rfl rfl]; rfl
end Go.Proofs.YtfpbbnllaogclaaDoor.Pure
