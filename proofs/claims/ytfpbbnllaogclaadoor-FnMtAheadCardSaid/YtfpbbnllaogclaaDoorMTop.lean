/- The matcher's door; texts' characters are determined. -/
import Derived.Test.YtfpbbnllaogclaaDoorMMatch
import Derived.Test.YtfpbbnllaogclaaDoorPAx14
import Derived.Test.YtfpbbnllaogclaaDoorPAx15
import Derived.Test.YtfpbbnllaogclaaDoorPAx16
import Derived.Test.YtfpbbnllaogclaaDoorPAx17
namespace Go.Proofs.YtfpbbnllaogclaaDoor.J
open Go.RowKit Go.Proofs.YtfpbbnllaogclaaDoor.PA Go.Proofs.YtfpbbnllaogclaaDoorW.PrintWords Go.Proofs.YtfpbbnllaogclaaDoorW.PrintLast
set_option linter.unusedSimpArgs false
set_option linter.unusedVariables false
theorem Tx.det {l xs : List Int} (h : Tx l xs) : ∀ {l' : List Int}, Tx l' xs → l = l' := by
  induction h with
  | nil => intro l' h; cases h; rfl
  | @cons c l rs r hc _ ih =>
    intro l' h
    cases h with
    | @cons c' l'' _ _ hc' ht' => rw [hc.inj hc', ih ht']
theorem ch_det {c c' q q' : List Int} {r r' : Int} (h : Ch c r) (h' : Ch c' r') (he : c ++ q = c' ++ q') (hB : IsB (c ++ q)) : c = c' ∧ r = r' ∧ q = q' := by
  have e := bytesOf_str hB
  have e1 := h.chr (s := strOfNums (c ++ q)) (p := []) (q := q) (by rw [e, List.nil_append])
  have e2 := h'.chr (s := strOfNums (c ++ q)) (p := []) (q := q') (by rw [e, he, List.nil_append])
  have := e1.symm.trans e2
  simp only [Option.some.injEq, Prod.mk.injEq] at this
  obtain ⟨rfl, hl⟩ := this
  obtain rfl := h.inj h'
  exact ⟨rfl, rfl, List.append_cancel_left he⟩
theorem Tx.prefix {l rs : List Int} (h : Tx l rs) : ∀ {cs q : List Int}, Tx (l ++ q) cs → ∃ t, cs = rs ++ t ∧ Tx q t := by
  induction h with
  | nil => intro cs q h; exact ⟨cs, rfl, h⟩
  | @cons c l rs r hc _ ih =>
    intro cs q h
    have hB := h.isB
    generalize hz : c ++ l ++ q = z at h hB
    cases h with
    | nil =>
      have := hc.ne
      simp only [List.append_eq_nil_iff] at hz
      exact absurd hz.1.1 this
    | @cons c' l' rs' r' hc' ht' =>
      rw [List.append_assoc] at hz
      obtain ⟨rfl, rfl, rfl⟩ := ch_det hc hc' hz (by rw [hz]; exact hB)
      obtain ⟨t, rfl, ht⟩ := ih ht'
      exact ⟨t, rfl, ht⟩
theorem mt_ev {s x : ByteArray} {cs : List Int} {ts : List Tm} (hsn : s.size ≤ 140737488351232) (hxn : x.size ≤ 140737488351232) (hs : Tx (bytesOf s) cs) (hp : Pt (bytesOf x) ts) :
    ∃ b : Bool, Ev (fun k => impl_MtMatch.f k s x) b ∧ (b = true ↔ GM ts cs) := by
  have top : ∀ b : Bool, Ev (fun k => match_match0.f k s x false) b → Ev (fun k => impl_MtMatch.f k s x) b := by
    intro b h
    have h1 : Ev (fun k => match_Match.f k s x) b := Ev.bind (f := fun _ t => some t) h (ev_const fun _ => rfl)
    exact Ev.bind (f := fun _ t => some t) h1 (ev_const fun _ => rfl)
  by_cases c1 : x.toList = ([42] : List UInt8)
  · have e : bytesOf x = 42 :: [] := by
      have := (toList_iff x (⟨#[42]⟩ : ByteArray)).1 (by rw [c1, Go.ByteArray.toList_eq])
      rw [this]; rfl
    rw [e] at hp
    obtain ⟨ts', rfl, hp'⟩ := first_star hp
    have : ts' = [] := List.eq_nil_of_length_eq_zero (by have := hp'.len; simpa using this)
    subst this
    exact ⟨true, top true (ev_const fun _ => by simp only [match_match0.f, if_pos c1]), by simp [gm_all]⟩
  · obtain ⟨b, hb, hi⟩ := match_ev _ cs ts s x (Nat.le_refl _) hsn hxn hs hp
    refine ⟨b, top b ?_, hi⟩
    have c4 : ¬ ((-1 : Int) > (-1)) := by decide
    have hf : Ev (fun k => match_match.f k s x 0 () (-1) false) (if b = true then 1 else 0) := Ev.step (fun k => by simp only [match_match.f, if_neg c4]) hb
    refine Ev.congr (f := fun k => (match_match.f k s x 0 () (-1) false).bind fun t => some (t == 1)) (fun k => by simp only [match_match0.f, if_neg c1]) ?_
    exact Ev.bind (f := fun _ t => some (t == 1)) hf (ev_const fun _ => by cases b <;> rfl)
end Go.Proofs.YtfpbbnllaogclaaDoor.J
