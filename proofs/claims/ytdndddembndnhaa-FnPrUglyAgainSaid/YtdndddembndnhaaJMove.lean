/- Numbers, strings and words that stand at another place read the same there. -/
import Derived.Test.YtdndddembndnhaaJVal

namespace Go.Proofs.Ytdndddembndnhaa.J
open Go.RowKit Go.Proofs.Ytdndddembndnhaa.PA Go.Proofs.YtdndddembndnhaaW.PrintWords Go.Proofs.YtdndddembndnhaaW.PrintLast
attribute [local irreducible] bt
set_option linter.unusedSimpArgs false
set_option linter.unusedVariables false
set_option linter.unusedSectionVars false

/-- The bytes of s from i to j stand in t, moved by d. -/
def Ag (s t : ByteArray) (d i j : Int) : Prop := ∀ k : Int, i ≤ k → k < j → bt t (k + d) = bt s k
theorem Ag.sub {s t : ByteArray} {d i j i' j' : Int} (h : Ag s t d i j) (a : i ≤ i') (b : j' ≤ j) : Ag s t d i' j' := fun k x y => h k (by omega) (by omega)
theorem stop_uniq {f : Int → Bool} (hf : f 0 = false) (s : ByteArray) : ∀ (n : Nat) (i m : Int), m = i + n → (∀ k : Int, i ≤ k → k < m → f (bt s k) = true) → f (bt s m) = false → stop f s i = m
  | 0, i, m, e, _, h => by
    have : m = i := by omega
    rw [this] at h ⊢
    exact stop_here hf s h
  | n + 1, i, m, e, a, h => by
    rw [stop_step hf s (a i (by omega) (by omega))]
    exact stop_uniq hf s n (i + 1) m (by omega) (fun k x y => a k (by omega) y) h
theorem de_tr {s t : ByteArray} {d i j : Int} (ag : Ag s t d i j) (h : de s i ≤ j) (hs : dig (bt t (j + d)) = false) : de t (i + d) = de s i + d := by
  have g := stop_ge dig0 s i
  refine stop_uniq dig0 t (de s i - i).toNat (i + d) (de s i + d) (by unfold de at *; omega) (fun k a b => ?_) ?_
  · have := ag (k - d) (by omega) (by omega)
    rw [show k - d + d = k from by omega] at this
    rw [this]
    exact stop_all dig0 s i (k - d) (by omega) (by unfold de at *; omega)
  · by_cases e : de s i = j
    · rw [e]; exact hs
    · rw [ag (de s i) g (by omega)]
      exact stop_not dig0 s i
def numstop (c : Int) : Prop := dig c = false ∧ c ≠ 46 ∧ c ≠ 101 ∧ c ≠ 69
theorem int_tr {s t : ByteArray} {d i a j : Int} (h : numInt s i = some a) (ha : a ≤ j) (ag : Ag s t d i j) (hs : numstop (bt t (j + d))) : numInt t (i + d) = some (a + d) := by
  unfold numInt at h ⊢
  by_cases c : bt s i = 48
  · rw [if_pos c] at h
    have := Option.some.inj h
    rw [if_pos (by rw [ag i (by omega) (by omega), c])]
    congr 1; omega
  · rw [if_neg c] at h
    by_cases c2 : i < de s i
    · rw [if_pos c2] at h
      have e := Option.some.inj h
      have g := de_tr ag (by omega) hs.1
      rw [if_neg (by rw [ag i (by omega) (by omega)]; exact c), g, if_pos (by omega), e]
    · rw [if_neg c2] at h; cases h
theorem pow_tr {s t : ByteArray} {d i a j : Int} (h : numPow s i = some a) (ha : a ≤ j) (ag : Ag s t d i j) (hs : numstop (bt t (j + d))) : numPow t (i + d) = some (a + d) := by
  unfold numPow at h ⊢
  by_cases c2 : i < de s i
  · rw [if_pos c2] at h
    have e := Option.some.inj h
    have g := de_tr ag (by omega) hs.1
    rw [g, if_pos (by omega), e]
  · rw [if_neg c2] at h; cases h
theorem frac_tr {s t : ByteArray} {d i a j : Int} (h : numFrac s i = some a) (hi : i ≤ j) (ha : a ≤ j) (ag : Ag s t d i j) (hs : numstop (bt t (j + d))) : numFrac t (i + d) = some (a + d) := by
  unfold numFrac at h ⊢
  by_cases c : bt s i = 46
  · rw [if_pos c] at h
    by_cases c2 : i + 1 < de s (i + 1)
    · rw [if_pos c2] at h
      have e := Option.some.inj h
      have g := de_tr (ag.sub (by omega) (Int.le_refl _) : Ag s t d (i + 1) j) (by omega) hs.1
      rw [show i + 1 + d = i + d + 1 from by omega] at g
      rw [if_pos (by rw [ag i (by omega) (by omega), c]), g, if_pos (by omega), e]
    · rw [if_neg c2] at h; cases h
  · rw [if_neg c] at h
    have e := Option.some.inj h
    have : ¬ bt t (i + d) = 46 := by
      by_cases x : i = j
      · rw [x]; exact hs.2.1
      · rw [ag i (by omega) (by omega)]; exact c
    rw [if_neg this, e]
theorem exp_tr {s t : ByteArray} {d i j : Int} (h : numExp s i = some j) (hi : i ≤ j) (ag : Ag s t d i j) (hs : numstop (bt t (j + d))) : numExp t (i + d) = some (j + d) := by
  unfold numExp at h ⊢
  by_cases c : bt s i = 101 ∨ bt s i = 69
  · have hin : i < s.size := bt_in (by omega)
    rw [if_pos c] at h
    by_cases c2 : bt s (i + 1) = 43 ∨ bt s (i + 1) = 45
    · have hin2 : i + 1 < s.size := bt_in (by omega)
      rw [if_pos c2] at h
      have l := numPow_le h (by omega)
      have g := pow_tr h (Int.le_refl _) (ag.sub (by omega) (Int.le_refl _)) hs
      have e1 := ag (i + 1) (by omega) (by omega)
      rw [show i + 1 + d = i + d + 1 from by omega] at e1
      rw [show i + 2 + d = i + d + 2 from by omega] at g
      rw [if_pos (by rw [ag i (by omega) (by omega)]; exact c), if_pos (by rw [e1]; exact c2), g]
    · rw [if_neg c2] at h
      have l := numPow_le h (by omega)
      have g := pow_tr h (Int.le_refl _) (ag.sub (by omega) (Int.le_refl _)) hs
      have e1 := ag (i + 1) (by omega) (by omega)
      rw [show i + 1 + d = i + d + 1 from by omega] at e1 g
      rw [if_pos (by rw [ag i (by omega) (by omega)]; exact c), if_neg (by rw [e1]; exact c2), g]
  · rw [if_neg c] at h
    have e := Option.some.inj h
    subst e
    rw [if_neg (by have := hs.2.2; omega)]
theorem num_parts {s : ByteArray} {i j : Int} (h : numEnd s i = some j) (hi : i ≤ s.size) : ∃ x a b, x = (if bt s i = 45 then i + 1 else i) ∧ numInt s x = some a ∧ numFrac s a = some b ∧ numExp s b = some j ∧ i ≤ x ∧ x < a ∧ a ≤ b ∧ b ≤ j ∧ j ≤ s.size := by
  unfold numEnd at h
  obtain ⟨a, ha, h⟩ := Option.bind_eq_some_iff.1 h
  obtain ⟨b, hb, h⟩ := Option.bind_eq_some_iff.1 h
  refine ⟨_, a, b, rfl, ha, hb, h, ?_⟩
  have h0 : i ≤ (if bt s i = 45 then i + 1 else i) ∧ (if bt s i = 45 then i + 1 else i) ≤ s.size := by
    split
    · rename_i e; have := bt_in (s := s) (i := i) (by omega); omega
    · omega
  revert ha h0
  generalize (if bt s i = 45 then i + 1 else i) = i1
  intro ha h0
  have h1 : i1 < a ∧ a ≤ s.size := by
    have g := stop_le dig0 s h0.2
    unfold numInt at ha
    split at ha
    · rename_i e; have := bt_in (s := s) (i := i1) (by omega); simp only [Option.some.injEq] at ha; omega
    · split at ha
      · simp only [Option.some.injEq] at ha; unfold de at *; omega
      · cases ha
  have h2 : a ≤ b ∧ b ≤ s.size := by
    unfold numFrac at hb
    split at hb
    · rename_i e
      have := bt_in (s := s) (i := a) (by omega)
      have g := stop_le dig0 s (i := a + 1) (by omega)
      split at hb
      · simp only [Option.some.injEq] at hb; unfold de at *; omega
      · cases hb
    · simp only [Option.some.injEq] at hb; omega
  unfold numExp at h
  split at h
  · rename_i e
    have := bt_in (s := s) (i := b) (by omega)
    split at h
    · rename_i e2
      have := bt_in (s := s) (i := b + 1) (by omega)
      have := numPow_le h (by omega)
      omega
    · have := numPow_le h (by omega)
      omega
  · simp only [Option.some.injEq] at h; omega
theorem num_tr {s t : ByteArray} {d i j : Int} (h : numEnd s i = some j) (hi : i ≤ s.size) (ag : Ag s t d i j) (hs : numstop (bt t (j + d))) : numEnd t (i + d) = some (j + d) := by
  obtain ⟨x, a, b, hx, ha, hb, hj, l1, l2, l3, l4, l5⟩ := num_parts h hi
  have e0 := ag i (by omega) (by omega)
  have g1 := int_tr ha (by omega) (ag.sub l1 (Int.le_refl _)) hs
  have g2 := frac_tr hb (by omega) l4 (ag.sub (by omega) (Int.le_refl _)) hs
  have g3 := exp_tr hj l4 (ag.sub (by omega) (Int.le_refl _)) hs
  have e : (if bt t (i + d) = 45 then i + d + 1 else i + d) = x + d := by
    rw [e0, hx]; split <;> omega
  unfold numEnd
  rw [e, g1, Option.bind_some, g2, Option.bind_some, g3]
theorem num_chars {s : ByteArray} {i j : Int} (h : numEnd s i = some j) (hi : i ≤ s.size) : ∀ k : Int, i ≤ k → k < j → 43 ≤ bt s k ∧ bt s k ≤ 101 := by
  obtain ⟨x, a, b, hx, ha, hb, hj, l1, l2, l3, l4, l5⟩ := num_parts h hi
  have dg : ∀ m k : Int, m ≤ k → k < de s m → 43 ≤ bt s k ∧ bt s k ≤ 101 := fun m k p q => by
    have := stop_all dig0 s m k p q
    rw [dig_iff] at this; omega
  have pw : ∀ m o : Int, numPow s m = some o → ∀ k : Int, m ≤ k → k < o → 43 ≤ bt s k ∧ bt s k ≤ 101 := fun m o g k p q => by
    unfold numPow at g
    split at g
    · have := Option.some.inj g; exact dg m k p (by omega)
    · cases g
  intro k p q
  by_cases k0 : k < x
  · rw [hx] at k0
    split at k0
    · have : k = i := by omega
      rw [this]; omega
    · omega
  by_cases k1 : k < a
  · unfold numInt at ha
    split at ha
    · have := Option.some.inj ha
      have : k = x := by omega
      rw [this]; omega
    · split at ha
      · have := Option.some.inj ha; exact dg x k (by omega) (by omega)
      · cases ha
  by_cases k2 : k < b
  · unfold numFrac at hb
    split at hb
    · split at hb
      · have := Option.some.inj hb
        by_cases e : k = a
        · rw [e]; omega
        · exact dg (a + 1) k (by omega) (by omega)
      · cases hb
    · have := Option.some.inj hb; omega
  unfold numExp at hj
  split at hj
  · split at hj
    · by_cases e : k = b
      · rw [e]; omega
      · by_cases e2 : k = b + 1
        · rw [e2]; omega
        · exact pw (b + 2) j hj k (by omega) q
    · by_cases e : k = b
      · rw [e]; omega
      · exact pw (b + 1) j hj k (by omega) q
  · have := Option.some.inj hj; omega
theorem hexes_tr {s t : ByteArray} {d : Int} : ∀ (n : Nat) (i : Int), Ag s t d i (i + n) → hexes t n (i + d) = hexes s n i
  | 0, _, _ => rfl
  | n + 1, i, ag => by
    rw [hexes, hexes, ag i (by omega) (by omega), show i + d + 1 = i + 1 + d from by omega, hexes_tr n (i + 1) (ag.sub (by omega) (by omega))]
theorem esc_tr {s t : ByteArray} {d i m : Int} (h : escEnd s i = some m) (ag : Ag s t d i m) : escEnd t (i + d) = some (m + d) := by
  have l := escEnd_le h
  unfold escEnd at h ⊢
  rw [ag i (by omega) (by omega)]
  split at h
  · rename_i c
    have := Option.some.inj h
    rw [if_pos c]; congr 1; omega
  · rename_i c
    rw [if_neg c]
    split at h
    · rename_i c1
      rw [if_pos c1]
      split at h
      · rename_i c2
        have e := Option.some.inj h
        rw [show i + d + 1 = i + 1 + d from by omega, if_pos (by rw [hexes_tr 4 (i + 1) (ag.sub (by omega) (by omega))]; exact c2)]
        congr 1; omega
      · cases h
    · cases h
theorem str_tr {s t : ByteArray} {d i j : Int} (h : StrTo s i j) : Ag s t d i j → StrTo t (i + d) (j + d) := by
  induction h with
  | done h =>
    rename_i i
    intro ag
    rw [show i + 1 + d = i + d + 1 from by omega]
    exact .done (by rw [ag i (by omega) (by omega), h])
  | char a b c g ih =>
    rename_i i j
    intro ag
    have l := g.le
    have e := ag i (by omega) (by omega)
    refine .char (by rw [e]; exact a) (by rw [e]; exact b) (by rw [e]; exact c) ?_
    rw [show i + d + 1 = i + 1 + d from by omega]
    exact ih (ag.sub (by omega) (Int.le_refl _))
  | esc a e g ih =>
    rename_i i m j
    intro ag
    have l := g.le
    have l2 := escEnd_le e
    have e0 := ag i (by omega) (by omega)
    have e1 := esc_tr e (ag.sub (by omega) (by omega))
    rw [show i + 1 + d = i + d + 1 from by omega] at e1
    exact .esc (by rw [e0, a]) e1 (ih (ag.sub (by omega) (Int.le_refl _)))
theorem hexes_all {s : ByteArray} : ∀ (n : Nat) (i : Int), hexes s n i = true → ∀ k : Int, i ≤ k → k < i + n → hex (bt s k) = true
  | 0, i, _, k, a, b => by omega
  | n + 1, i, h, k, a, b => by
    rw [hexes, Bool.and_eq_true] at h
    by_cases e : k = i
    · rw [e]; exact h.1
    · exact hexes_all n (i + 1) h.2 k (by omega) (by omega)
theorem str_chars {s : ByteArray} {i j : Int} (h : StrTo s i j) : ∀ k : Int, i ≤ k → k < j → 32 ≤ bt s k := by
  induction h with
  | done h =>
    rename_i i
    intro k a b
    have : k = i := by omega
    rw [this]; omega
  | char a b c g ih =>
    rename_i i j
    intro k x y
    by_cases e : k = i
    · rw [e]; exact a
    · exact ih k (by omega) y
  | esc a e g ih =>
    rename_i i m j
    intro k x y
    by_cases e0 : k = i
    · rw [e0]; omega
    by_cases e1 : k < m
    · unfold escEnd at e
      split at e
      · rename_i c
        rw [short_iff] at c
        have := Option.some.inj e
        have : k = i + 1 := by omega
        rw [this]; omega
      · split at e
        · split at e
          · rename_i c
            have := Option.some.inj e
            by_cases e2 : k = i + 1
            · rw [e2]; omega
            · have := hexes_all 4 (i + 1 + 1) c k (by omega) (by omega)
              rw [hex_iff] at this; omega
          · cases e
        · cases e
    · exact ih k (by omega) y
/-- The list stands in s from i on. -/
def At (s : ByteArray) : Int → List Int → Prop
  | _, [] => True
  | i, c :: l => bt s i = c ∧ At s (i + 1) l
theorem At.append {s : ByteArray} : ∀ {a b : List Int} {i : Int}, At s i (a ++ b) ↔ At s i a ∧ At s (i + a.length) b
  | [], b, i => by simp [At]
  | c :: a, b, i => by
    rw [List.cons_append, At, At, At.append (a := a), List.length_cons, show i + ((a.length + 1 : Nat) : Int) = i + 1 + a.length from by omega, and_assoc]
/-- The bytes from i on, n of them. -/
def slf (s : ByteArray) : Nat → Int → List Int
  | 0, _ => []
  | n + 1, i => bt s i :: slf s n (i + 1)
theorem slf_length (s : ByteArray) : ∀ (n : Nat) (i : Int), (slf s n i).length = n
  | 0, _ => rfl
  | n + 1, i => by rw [slf, List.length_cons, slf_length s n]
theorem slf_at (s : ByteArray) : ∀ (n : Nat) (i : Int), At s i (slf s n i)
  | 0, _ => trivial
  | n + 1, i => ⟨rfl, slf_at s n (i + 1)⟩
theorem At.eq {s : ByteArray} : ∀ {l m : List Int} {i : Int}, At s i l → At s i m → l.length = m.length → l = m
  | [], [], _, _, _, _ => rfl
  | c :: l, c' :: m, i, h, h', e => by
    rw [h.1.symm.trans h'.1, At.eq h.2 h'.2 (by simpa using e)]
theorem At.ag {s t : ByteArray} : ∀ {l : List Int} {i i' : Int}, At s i l → At t i' l → Ag s t (i' - i) i (i + l.length)
  | [], i, i', _, _ => fun k a b => by simp at b; omega
  | c :: l, i, i', h, h' => fun k a b => by
    rw [List.length_cons] at b
    by_cases e : k = i
    · rw [e, h.1, show i + (i' - i) = i' from by omega, h'.1]
    · have := At.ag h.2 h'.2 k (by omega) (by omega)
      rw [show k + (i' + 1 - (i + 1)) = k + (i' - i) from by omega] at this
      exact this
theorem At.mem {s : ByteArray} {P : Int → Prop} : ∀ {l : List Int} {i : Int}, At s i l → (∀ k : Int, i ≤ k → k < i + l.length → P (bt s k)) → ∀ c ∈ l, P c
  | [], _, _, _ => fun c h => by cases h
  | x :: l, i, h, g => fun c hc => by
    rcases List.mem_cons.1 hc with rfl | hc
    · rw [← h.1]; exact g i (by omega) (by rw [List.length_cons]; omega)
    · exact At.mem h.2 (fun k a b => g k (by omega) (by rw [List.length_cons]; omega)) c hc
theorem At.in {s : ByteArray} : ∀ {l : List Int} {i : Int}, At s i l → (∀ c ∈ l, c ≠ 0) → i ≤ s.size → i + l.length ≤ s.size
  | [], i, _, _, h => by simpa using h
  | c :: l, i, h, g, hi => by
    have : i < s.size := bt_in (by rw [h.1]; exact g c (by simp))
    have := At.in (l := l) (i := i + 1) h.2 (fun x hx => g x (by simp [hx])) (by omega)
    rw [List.length_cons]; omega
theorem wordAt_at {s : ByteArray} : ∀ {l : List Int} {i : Int}, wordAt s i l = true ↔ At s i l
  | [], _ => by simp [wordAt, At]
  | c :: l, i => by rw [wordAt, Bool.and_eq_true, beq_iff_eq, wordAt_at, At]
end Go.Proofs.Ytdndddembndnhaa.J
