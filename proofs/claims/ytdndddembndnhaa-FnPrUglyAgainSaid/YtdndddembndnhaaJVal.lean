/- What the reference reads as a JSON value: plain definitions, and that the reference's reader computes them. -/
import Derived.Test.YtdndddembndnhaaJByt
import Derived.Test.YtdndddembndnhaaJStr

namespace Go.Proofs.Ytdndddembndnhaa.J
open Go.RowKit Go.Proofs.Ytdndddembndnhaa.PA Go.Proofs.YtdndddembndnhaaW.PrintWords Go.Proofs.YtdndddembndnhaaW.PrintLast
attribute [local irreducible] bt
set_option linter.unusedSimpArgs false
set_option linter.unusedVariables false
set_option linter.unusedSectionVars false

def blank (c : Int) : Bool := c == 32 || c == 9 || c == 10 || c == 13
theorem blank_iff (c : Int) : blank c = true ↔ c = 32 ∨ c = 9 ∨ c = 10 ∨ c = 13 := by simp [blank, or_assoc]
theorem blank_not (c : Int) : blank c = false ↔ ¬ (c = 32 ∨ c = 9 ∨ c = 10 ∨ c = 13) := by rw [← blank_iff]; simp
def dig (c : Int) : Bool := 48 ≤ c && c ≤ 57
theorem dig_iff (c : Int) : dig c = true ↔ 48 ≤ c ∧ c ≤ 57 := by simp [dig]
theorem dig_not (c : Int) : dig c = false ↔ ¬ (48 ≤ c ∧ c ≤ 57) := by rw [← dig_iff]; simp
/-- The first place from i on whose byte does not count. -/
def stopf (f : Int → Bool) (s : ByteArray) : Nat → Int → Int
  | 0, i => i
  | n + 1, i => if f (bt s i) then stopf f s n (i + 1) else i
def stop (f : Int → Bool) (s : ByteArray) (i : Int) : Int := stopf f s ((s.size : Int) - i).toNat i
section
variable {f : Int → Bool} (hf : f 0 = false) (s : ByteArray)
include hf
theorem stop_step {i : Int} (h : f (bt s i) = true) : stop f s i = stop f s (i + 1) := by
  have hi : i < s.size := bt_in (by intro e; rw [e, hf] at h; cases h)
  have e : ((s.size : Int) - i).toNat = ((s.size : Int) - (i + 1)).toNat + 1 := by omega
  unfold stop
  rw [e, stopf, if_pos h]
theorem stop_here {i : Int} (h : f (bt s i) = false) : stop f s i = i := by
  unfold stop
  cases ((s.size : Int) - i).toNat with
  | zero => rfl
  | succ n => rw [stopf, h]; rfl
theorem stop_ind {P : Int → Prop} (h1 : ∀ i : Int, f (bt s i) = false → P i) (h2 : ∀ i : Int, i < s.size → f (bt s i) = true → P (i + 1) → P i) : ∀ i : Int, P i := by
  have key : ∀ (n : Nat) (i : Int), (s.size : Int) - i ≤ n → P i := by
    intro n
    induction n with
    | zero => intro i hi; exact h1 i (by rw [bt_out s (by omega), hf])
    | succ n ih =>
      intro i hi
      cases h : f (bt s i) with
      | false => exact h1 i h
      | true => exact h2 i (bt_in (by intro e; rw [e, hf] at h; cases h)) h (ih (i + 1) (by omega))
  exact fun i => key ((s.size : Int) - i).toNat i (by omega)
theorem stop_ge (i : Int) : i ≤ stop f s i := by
  refine stop_ind (P := fun i => i ≤ stop f s i) hf s (fun i h => ?_) (fun i hi h ih => ?_) i
  · rw [stop_here hf s h]; exact Int.le_refl _
  · rw [stop_step hf s h]; omega
theorem stop_le {i : Int} (hi : i ≤ s.size) : stop f s i ≤ s.size := by
  refine stop_ind (P := fun i => i ≤ s.size → stop f s i ≤ s.size) hf s (fun i h hi => ?_) (fun i hlt h ih hi => ?_) i hi
  · rw [stop_here hf s h]; exact hi
  · rw [stop_step hf s h]; exact ih (by omega)
theorem stop_not (i : Int) : f (bt s (stop f s i)) = false := by
  refine stop_ind (P := fun i => f (bt s (stop f s i)) = false) hf s (fun i h => ?_) (fun i hi h ih => ?_) i
  · rw [stop_here hf s h]; exact h
  · rw [stop_step hf s h]; exact ih
theorem stop_all (i : Int) : ∀ k : Int, i ≤ k → k < stop f s i → f (bt s k) = true := by
  refine stop_ind (P := fun i => ∀ k : Int, i ≤ k → k < stop f s i → f (bt s k) = true) hf s (fun i h k hk hk' => ?_) (fun i hi h ih k hk hk' => ?_) i
  · rw [stop_here hf s h] at hk'; omega
  · rw [stop_step hf s h] at hk'
    by_cases e : k = i
    · rw [e]; exact h
    · exact ih k (by omega) hk'
end
/-- Behind the blanks. -/
abbrev sk (s : ByteArray) (i : Int) : Int := stop blank s i
/-- Behind the digits. -/
abbrev de (s : ByteArray) (i : Int) : Int := stop dig s i
theorem blank0 : blank 0 = false := rfl
theorem dig0 : dig 0 = false := rfl
def wordAt (s : ByteArray) : Int → List Int → Bool
  | _, [] => true
  | i, c :: w => bt s i == c && wordAt s (i + 1) w
def numInt (s : ByteArray) (i : Int) : Option Int := if bt s i = 48 then some (i + 1) else if i < de s i then some (de s i) else none
def numFrac (s : ByteArray) (i : Int) : Option Int := if bt s i = 46 then (if i + 1 < de s (i + 1) then some (de s (i + 1)) else none) else some i
def numPow (s : ByteArray) (i : Int) : Option Int := if i < de s i then some (de s i) else none
def numExp (s : ByteArray) (i : Int) : Option Int :=
  if bt s i = 101 ∨ bt s i = 69 then (if bt s (i + 1) = 43 ∨ bt s (i + 1) = 45 then numPow s (i + 2) else numPow s (i + 1)) else some i
def numEnd (s : ByteArray) (i : Int) : Option Int := (numInt s (if bt s i = 45 then i + 1 else i)).bind fun a => (numFrac s a).bind (numExp s)
theorem StrTo.det {s : ByteArray} {i j j' : Int} (h : StrTo s i j) (h' : StrTo s i j') : j = j' := by
  induction h with
  | done h => exact ((StrTo.quote h).1 h').symm
  | char a b c _ ih => exact ih ((StrTo.plain a b c).1 h')
  | esc a e _ ih =>
    obtain ⟨m, e', g⟩ := (StrTo.escaped a).1 h'
    rw [e] at e'
    obtain rfl := Option.some.inj e'
    exact ih g
open Classical in
noncomputable def strEnd (s : ByteArray) (i : Int) : Option Int := if h : ∃ j, StrTo s i j then some h.choose else none
theorem strEnd_iff {s : ByteArray} {i j : Int} : strEnd s i = some j ↔ StrTo s i j := by
  unfold strEnd
  constructor
  · intro h
    split at h
    · rename_i g
      obtain rfl := Option.some.inj h
      exact g.choose_spec
    · cases h
  · intro h
    rw [dif_pos ⟨j, h⟩]
    exact congrArg some (StrTo.det (Exists.choose_spec (⟨j, h⟩ : ∃ j, StrTo s i j)) h)
theorem strEnd_none {s : ByteArray} {i : Int} : strEnd s i = none ↔ ∀ j, ¬ StrTo s i j := by
  constructor
  · intro h j g
    rw [strEnd_iff.2 g] at h
    cases h
  · intro h
    cases e : strEnd s i with
    | none => rfl
    | some j => exact absurd (strEnd_iff.1 e) (h j)
mutual
/-- The value that stands at i: where it ends, and what it is. -/
noncomputable def val (s : ByteArray) : Nat → Int → Option (Int × S32)
  | 0, _ => none
  | n + 1, i =>
    if bt s i = 123 then
      if bt s (sk s (i + 1)) = 125 then some (sk s (i + 1) + 1, ⟨6, i, sk s (i + 1) + 1, [], []⟩)
      else (mems s n (sk s (i + 1))).bind fun r => some (r.1, ⟨6, i, r.1, r.2.1, r.2.2⟩)
    else if bt s i = 91 then
      if bt s (sk s (i + 1)) = 93 then some (sk s (i + 1) + 1, ⟨5, i, sk s (i + 1) + 1, [], []⟩)
      else (elems s n (sk s (i + 1))).bind fun r => some (r.1, ⟨5, i, r.1, [], r.2⟩)
    else if bt s i = 34 then (strEnd s (i + 1)).bind fun j => some (j, ⟨4, i, j, [], []⟩)
    else if bt s i = 45 ∨ dig (bt s i) = true then (numEnd s i).bind fun j => some (j, ⟨3, i, j, [], []⟩)
    else if wordAt s i [110, 117, 108, 108] then some (i + 4, ⟨0, i, i + 4, [], []⟩)
    else if wordAt s i [102, 97, 108, 115, 101] then some (i + 5, ⟨1, i, i + 5, [], []⟩)
    else if wordAt s i [116, 114, 117, 101] then some (i + 4, ⟨2, i, i + 4, [], []⟩)
    else none
/-- The members from the first name on, at i, to the closing brace. -/
noncomputable def mems (s : ByteArray) : Nat → Int → Option (Int × List S64 × List S32)
  | 0, _ => none
  | n + 1, i =>
    if bt s i = 34 then (strEnd s (i + 1)).bind fun m =>
      if bt s (sk s m) = 58 then (val s n (sk s (sk s m + 1))).bind fun v =>
        if bt s (sk s v.1) = 125 then some (sk s v.1 + 1, [⟨i, m⟩], [v.2])
        else if bt s (sk s v.1) = 44 then (mems s n (sk s (sk s v.1 + 1))).bind fun r => some (r.1, ⟨i, m⟩ :: r.2.1, v.2 :: r.2.2)
        else none
      else none
    else none
/-- The elements from the first one on, at i, to the closing bracket. -/
noncomputable def elems (s : ByteArray) : Nat → Int → Option (Int × List S32)
  | 0, _ => none
  | n + 1, i => (val s n i).bind fun v =>
      if bt s (sk s v.1) = 93 then some (sk s v.1 + 1, [v.2])
      else if bt s (sk s v.1) = 44 then (elems s n (sk s (sk s v.1 + 1))).bind fun r => some (r.1, v.2 :: r.2)
      else none
end
theorem wordAt_in {s : ByteArray} : ∀ {w : List Int} {i : Int}, (∀ c ∈ w, c ≠ 0) → wordAt s i w = true → i ≤ s.size → i + w.length ≤ s.size
  | [], i, _, _, h => by simpa using h
  | c :: w, i, hw, h, hi => by
    simp only [wordAt, Bool.and_eq_true, beq_iff_eq] at h
    have : i < s.size := bt_in (by rw [h.1]; exact hw c (by simp))
    have := wordAt_in (w := w) (i := i + 1) (fun x hx => hw x (by simp [hx])) h.2 (by omega)
    simp only [List.length_cons]
    omega
theorem numPow_le {s : ByteArray} {i j : Int} (h : numPow s i = some j) (hi : i ≤ s.size) : i < j ∧ j ≤ s.size := by
  have h1 := stop_le dig0 s hi
  unfold numPow at h
  split at h
  · simp only [Option.some.injEq] at h; unfold de at *; omega
  · cases h
theorem numEnd_le {s : ByteArray} {i j : Int} (h : numEnd s i = some j) (hi : i ≤ s.size) : i < j ∧ j ≤ s.size := by
  unfold numEnd at h
  obtain ⟨a, ha, h⟩ := Option.bind_eq_some_iff.1 h
  obtain ⟨b, hb, h⟩ := Option.bind_eq_some_iff.1 h
  have h0 : i ≤ (if bt s i = 45 then i + 1 else i) ∧ (if bt s i = 45 then i + 1 else i) ≤ s.size := by
    split
    · rename_i e; have := bt_in (s := s) (i := i) (by omega); omega
    · omega
  revert ha h0
  generalize (if bt s i = 45 then i + 1 else i) = i1
  intro ha h0
  have h1 : i1 < a ∧ a ≤ s.size := by
    have g := stop_le dig0 s h0.2
    unfold numInt at ha
    split at ha
    · rename_i e; have := bt_in (s := s) (i := i1) (by omega); simp only [Option.some.injEq] at ha; omega
    · split at ha
      · simp only [Option.some.injEq] at ha; unfold de at *; omega
      · cases ha
  have h2 : a ≤ b ∧ b ≤ s.size := by
    unfold numFrac at hb
    split at hb
    · rename_i e
      have := bt_in (s := s) (i := a) (by omega)
      have g := stop_le dig0 s (i := a + 1) (by omega)
      split at hb
      · simp only [Option.some.injEq] at hb; unfold de at *; omega
      · cases hb
    · simp only [Option.some.injEq] at hb; omega
  unfold numExp at h
  split at h
  · rename_i e
    have := bt_in (s := s) (i := b) (by omega)
    split at h
    · rename_i e2
      have := bt_in (s := s) (i := b + 1) (by omega)
      have := numPow_le h (by omega)
      omega
    · have := numPow_le h (by omega)
      omega
  · simp only [Option.some.injEq] at h; omega
theorem val_le_all (s : ByteArray) : ∀ n : Nat,
    (∀ (i j : Int) p, i ≤ s.size → val s n i = some (j, p) → i < j ∧ j ≤ s.size ∧ p.f1 = i ∧ p.f2 = j) ∧
    (∀ (i : Int) r, i ≤ s.size → mems s n i = some r → i < r.1 ∧ r.1 ≤ s.size) ∧
    (∀ (i : Int) r, i ≤ s.size → elems s n i = some r → i < r.1 ∧ r.1 ≤ s.size)
  | 0 => ⟨fun i j p _ h => by simp [val] at h, fun i r _ h => by simp [mems] at h, fun i r _ h => by simp [elems] at h⟩
  | n + 1 => by
    obtain ⟨hv, hm, he⟩ := val_le_all s n
    have hsk : ∀ i : Int, i ≤ s.size → i ≤ sk s i ∧ sk s i ≤ s.size := fun i hi => ⟨stop_ge blank0 s i, stop_le blank0 s hi⟩
    have hin : ∀ (i c : Int), bt s i = c → c ≠ 0 → i < s.size := fun i c h h0 => bt_in (by rw [h]; exact h0)
    refine ⟨fun i j p hi h => ?_, fun i r hi h => ?_, fun i r hi h => ?_⟩
    · rw [val] at h
      split at h
      · rename_i c1
        have i1 := hin i _ c1 (by decide)
        have i2 := hsk (i + 1) (by omega)
        split at h
        · rename_i c2
          have i3 := hin _ _ c2 (by decide)
          simp only [Option.some.injEq, Prod.mk.injEq] at h
          obtain ⟨rfl, rfl⟩ := h
          exact ⟨by omega, by omega, rfl, rfl⟩
        · obtain ⟨r, hr, h⟩ := Option.bind_eq_some_iff.1 h
          have := hm _ r i2.2 hr
          simp only [Option.some.injEq, Prod.mk.injEq] at h
          obtain ⟨rfl, rfl⟩ := h
          exact ⟨by omega, by omega, rfl, rfl⟩
      · split at h
        · rename_i c1
          have i1 := hin i _ c1 (by decide)
          have i2 := hsk (i + 1) (by omega)
          split at h
          · rename_i c2
            have i3 := hin _ _ c2 (by decide)
            simp only [Option.some.injEq, Prod.mk.injEq] at h
            obtain ⟨rfl, rfl⟩ := h
            exact ⟨by omega, by omega, rfl, rfl⟩
          · obtain ⟨r, hr, h⟩ := Option.bind_eq_some_iff.1 h
            have := he _ r i2.2 hr
            simp only [Option.some.injEq, Prod.mk.injEq] at h
            obtain ⟨rfl, rfl⟩ := h
            exact ⟨by omega, by omega, rfl, rfl⟩
        · split at h
          · obtain ⟨m, hm', h⟩ := Option.bind_eq_some_iff.1 h
            have := (strEnd_iff.1 hm').le
            simp only [Option.some.injEq, Prod.mk.injEq] at h
            obtain ⟨rfl, rfl⟩ := h
            exact ⟨by omega, by omega, rfl, rfl⟩
          · split at h
            · obtain ⟨m, hm', h⟩ := Option.bind_eq_some_iff.1 h
              have := numEnd_le hm' hi
              simp only [Option.some.injEq, Prod.mk.injEq] at h
              obtain ⟨rfl, rfl⟩ := h
              exact ⟨by omega, by omega, rfl, rfl⟩
            · split at h
              · rename_i c
                have := wordAt_in (by decide) c hi
                simp only [Option.some.injEq, Prod.mk.injEq, List.length_cons, List.length_nil] at h this
                obtain ⟨rfl, rfl⟩ := h
                exact ⟨by omega, by omega, rfl, rfl⟩
              · split at h
                · rename_i c
                  have := wordAt_in (by decide) c hi
                  simp only [Option.some.injEq, Prod.mk.injEq, List.length_cons, List.length_nil] at h this
                  obtain ⟨rfl, rfl⟩ := h
                  exact ⟨by omega, by omega, rfl, rfl⟩
                · split at h
                  · rename_i c
                    have := wordAt_in (by decide) c hi
                    simp only [Option.some.injEq, Prod.mk.injEq, List.length_cons, List.length_nil] at h this
                    obtain ⟨rfl, rfl⟩ := h
                    exact ⟨by omega, by omega, rfl, rfl⟩
                  · cases h
    · rw [mems] at h
      split at h
      · obtain ⟨m, hm', h⟩ := Option.bind_eq_some_iff.1 h
        have i1 := (strEnd_iff.1 hm').le
        have i2 := hsk m (by omega)
        split at h
        · rename_i c
          have i3 := hin _ _ c (by decide)
          have i4 := hsk (sk s m + 1) (by omega)
          obtain ⟨v, hv', h⟩ := Option.bind_eq_some_iff.1 h
          have i5 := hv _ v.1 v.2 i4.2 hv'
          have i6 := hsk v.1 (by omega)
          split at h
          · rename_i c
            have i7 := hin _ _ c (by decide)
            simp only [Option.some.injEq] at h
            subst h
            exact ⟨by simp only; omega, by simp only; omega⟩
          · split at h
            · rename_i c
              have i7 := hin _ _ c (by decide)
              have i8 := hsk (sk s v.1 + 1) (by omega)
              obtain ⟨q, hq, h⟩ := Option.bind_eq_some_iff.1 h
              have i9 := hm _ q i8.2 hq
              simp only [Option.some.injEq] at h
              subst h
              exact ⟨by simp only; omega, by simp only; omega⟩
            · cases h
        · cases h
      · cases h
    · rw [elems] at h
      obtain ⟨v, hv', h⟩ := Option.bind_eq_some_iff.1 h
      have i5 := hv _ v.1 v.2 hi hv'
      have i6 := hsk v.1 (by omega)
      split at h
      · rename_i c
        have i7 := hin _ _ c (by decide)
        simp only [Option.some.injEq] at h
        subst h
        exact ⟨by simp only; omega, by simp only; omega⟩
      · split at h
        · rename_i c
          have i7 := hin _ _ c (by decide)
          have i8 := hsk (sk s v.1 + 1) (by omega)
          obtain ⟨q, hq, h⟩ := Option.bind_eq_some_iff.1 h
          have i9 := he _ q i8.2 hq
          simp only [Option.some.injEq] at h
          subst h
          exact ⟨by simp only; omega, by simp only; omega⟩
        · cases h
end Go.Proofs.Ytdndddembndnhaa.J
