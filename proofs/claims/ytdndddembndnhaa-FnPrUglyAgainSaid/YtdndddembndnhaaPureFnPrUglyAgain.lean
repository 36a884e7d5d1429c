/- Ugly leaves a text that reads as JSON a text that reads as JSON and is not longer, and leaves that one as it is. -/
import Derived.Test.YtdndddembndnhaaJAll
import Derived.Test.YtdndddembndnhaaJMove
import Derived.Test.YtdndddembndnhaaPAx16
import Derived.Test.YtdndddembndnhaaPAx17
import Derived.Test.YtdndddembndnhaaPAx18
import Derived.Test.YtdndddembndnhaaPAx19
import Derived.Test.YtdndddembndnhaaPAx20
import Derived.Test.YtdndddembndnhaaPAx21
namespace Go.Proofs.Ytdndddembndnhaa.Pure
open Go.RowKit Go.Proofs.Ytdndddembndnhaa.PA Go.Proofs.Ytdndddembndnhaa.J Go.Proofs.YtdndddembndnhaaW.PrintWords Go.Proofs.YtdndddembndnhaaW.PrintLast
attribute [local irreducible] bt rd
set_option linter.unusedSimpArgs false
set_option linter.unusedVariables false
set_option linter.unusedSectionVars false

theorem rd_at {l p q : List Int} {c i : Int} (h : l = p ++ c :: q) (hi : i = p.length) : rd l i = c := by
  unfold rd
  rw [h, hi, Int.toNat_natCast]
  simp [List.getD_eq_getElem?_getD]
def Even (l : List Int) : Prop := ∃ p x n, l = p ++ x :: List.replicate (2 * n) 92 ∧ x ≠ 92
/-- From i on with this output, to j with l put out. -/
def Goes (s : ByteArray) (i j : Int) (l : List Int) : Prop := 0 ≤ i → ∀ (out : List Int) (r : List Int), (out.length : Int) ≤ i →
  Ev (fun k => pretty_ugly.l0 k (out ++ l) (bytesOf s) j) r → Ev (fun k => pretty_ugly.l0 k out (bytesOf s) i) r
theorem Goes.nil (s : ByteArray) (i : Int) : Goes s i i [] := fun _ out r _ h => by rw [List.append_nil] at h; exact h
theorem Goes.trans {s : ByteArray} {i m j : Int} {a b : List Int} (h : Goes s i m a) (l : i + a.length ≤ m) (g : Goes s m j b) : Goes s i j (a ++ b) := fun h0 out r ho hr =>
  h h0 out r ho (g (by omega) (out ++ a) r (by rw [List.length_append]; omega) (by rw [List.append_assoc]; exact hr))
section
variable {s : ByteArray} (hn : s.size ≤ 2147483647)
include hn
theorem goes_plain {i : Int} (h1 : i < s.size) (hc : 32 < bt s i) (hq : bt s i ≠ 34) : Goes s i (i + 1) [bt s i] := by
  intro h0 out r ho hr
  have hw : wrap64 (i + 1) = i + 1 := wr (by omega) (by omega)
  have hl := bytesOf_length s
  have ho' : out.length < 140737488355328 := by omega
  have e : rd (bytesOf s) i = bt s i := rd_bytesOf s i
  have c1 : i < ((bytesOf s).length : Int) := by rw [hl]; exact h1
  have c2 : bt s i > 32 := hc
  refine Ev.step (fun k => ?_) hr
  simp only [pretty_ugly.l0, if_pos c1, if_pos h0, e, if_pos c2, if_pos ho', Option.bind_some, if_neg hq, hw]
theorem goes_skip {i : Int} (h1 : i < s.size) (hc : bt s i ≤ 32) : Goes s i (i + 1) [] := by
  intro h0 out r ho hr
  have hw : wrap64 (i + 1) = i + 1 := wr (by omega) (by omega)
  have hl := bytesOf_length s
  have e : rd (bytesOf s) i = bt s i := rd_bytesOf s i
  have c1 : i < ((bytesOf s).length : Int) := by rw [hl]; exact h1
  have c2 : ¬ bt s i > 32 := by omega
  rw [List.append_nil] at hr
  refine Ev.step (fun k => ?_) hr
  simp only [pretty_ugly.l0, if_pos c1, if_pos h0, e, if_neg c2, hw]
theorem goes_list : ∀ (l : List Int) (i : Int), At s i l → (∀ c ∈ l, 32 < c ∧ c ≠ 34) → Goes s i (i + l.length) l
  | [], i, _, _ => by rw [List.length_nil, show i + ((0 : Nat) : Int) = i from by omega]; exact Goes.nil s i
  | c :: l, i, h, g => by
    have h1 := g c (by simp)
    have hi : i < s.size := bt_in (by rw [h.1]; omega)
    have a := goes_plain hn hi (by rw [h.1]; exact h1.1) (by rw [h.1]; exact h1.2)
    rw [h.1] at a
    have b := goes_list l (i + 1) h.2 (fun x hx => g x (by simp [hx]))
    rw [List.length_cons, show i + ((l.length + 1 : Nat) : Int) = i + 1 + l.length from by omega]
    exact Goes.trans a (by simp) b
theorem goes_blanks (i : Int) : Goes s i (sk s i) [] := by
  refine stop_ind (P := fun i => Goes s i (sk s i) []) blank0 s (fun i h => ?_) (fun i hi h ih => ?_) i
  · rw [show sk s i = i from stop_here blank0 s h]; exact Goes.nil s i
  · rw [show sk s i = sk s (i + 1) from stop_step blank0 s h]
    rw [blank_iff] at h
    exact Goes.trans (a := []) (b := []) (goes_skip hn hi (by omega)) (by simp only [List.length_nil]; omega) ih
/-- The count of backslashes behind a quotation mark. -/
theorem l2_goes (O p : List Int) (x : Int) (n : Nat) (hO : O = p ++ x :: (List.replicate n 92 ++ [34])) (hl : O.length ≤ 3000000000) (hx : x ≠ 92) (i : Int) (hi : 0 ≤ i) (hi2 : i ≤ 3000000000) (r : List Int) : ∀ m : Nat, m ≤ n →
    (n % 2 = 1 → Ev (fun k => pretty_ugly.l1 k O (bytesOf s) (i + 1)) r → Ev (fun k => pretty_ugly.l2 k O (bytesOf s) i ((p.length : Int) + m)) r) ∧
    (n % 2 = 0 → Ev (fun k => pretty_ugly.l0 k O (bytesOf s) (i + 1)) r → Ev (fun k => pretty_ugly.l2 k O (bytesOf s) i ((p.length : Int) + m)) r)
  | 0, _ => by
    have hlen : O.length = p.length + n + 2 := by rw [hO]; simp; omega
    have hb : rd O ((p.length : Int) + ((0 : Nat) : Int)) = x := rd_at hO (by omega)
    have w1 : wrap64 ((O.length : Int) - 1) = (O.length : Int) - 1 := wr (by omega) (by omega)
    have w2 : wrap64 ((p.length : Int) + ((0 : Nat) : Int) - ((O.length : Int) - 1)) = -((n : Int) + 1) := by rw [wr (by omega) (by omega)]; omega
    have w3 : wrap64 (i + 1) = i + 1 := wr (by omega) (by omega)
    have c1 : 0 ≤ (p.length : Int) + ((0 : Nat) : Int) := by omega
    have c2 : (p.length : Int) + ((0 : Nat) : Int) < (O.length : Int) := by omega
    have ht : Int.tmod (-((n : Int) + 1)) 2 = -(((n : Int) + 1) % 2) := by rw [Int.neg_tmod, Int.tmod_eq_emod_of_nonneg (by omega)]
    refine ⟨fun hp h => Ev.step (fun k => ?_) h, fun hp h => Ev.step (fun k => ?_) h⟩
    · have c3 : -(((n : Int) + 1) % 2) = 0 := by omega
      simp only [pretty_ugly.l2, if_pos c1, if_pos c2, hb, if_neg hx, w1, w2, ht, if_pos c3, w3]
    · have c3 : ¬ -(((n : Int) + 1) % 2) = 0 := by omega
      simp only [pretty_ugly.l2, if_pos c1, if_pos c2, hb, if_neg hx, w1, w2, ht, if_neg c3, w3]
  | m + 1, hm => by
    have ih := l2_goes O p x n hO hl hx i hi hi2 r m (by omega)
    have hlen : O.length = p.length + n + 2 := by rw [hO]; simp; omega
    have hb : rd O ((p.length : Int) + ((m + 1 : Nat) : Int)) = 92 := by
      refine rd_at (p := p ++ x :: List.replicate m 92) (q := List.replicate (n - m - 1) 92 ++ [34]) ?_ (by simp)
      rw [hO]
      have : List.replicate n (92 : Int) = List.replicate m 92 ++ 92 :: List.replicate (n - m - 1) 92 := by
        rw [← List.replicate_succ, List.replicate_append_replicate]
        congr 1; omega
      rw [this]; simp
    have w : wrap64 ((p.length : Int) + ((m + 1 : Nat) : Int) - 1) = (p.length : Int) + m := by rw [wr (by omega) (by omega)]; omega
    have c1 : 0 ≤ (p.length : Int) + ((m + 1 : Nat) : Int) := by omega
    have c2 : (p.length : Int) + ((m + 1 : Nat) : Int) < (O.length : Int) := by omega
    have st : ∀ k, pretty_ugly.l2 (k + 1) O (bytesOf s) i ((p.length : Int) + ((m + 1 : Nat) : Int)) = pretty_ugly.l2 k O (bytesOf s) i ((p.length : Int) + m) := fun k => by
      simp only [pretty_ugly.l2, if_pos c1, if_pos c2, hb, if_true, w]
    exact ⟨fun hp h => Ev.step st (ih.1 hp h), fun hp h => Ev.step st (ih.2 hp h)⟩
/-- A byte of a string that is not a quotation mark. -/
theorem l1_char {i : Int} (h0 : 0 ≤ i) (h1 : i < s.size) (hq : bt s i ≠ 34) (out : List Int) (ho : (out.length : Int) ≤ i) (r : List Int) :
    Ev (fun k => pretty_ugly.l1 k (out ++ [bt s i]) (bytesOf s) (i + 1)) r → Ev (fun k => pretty_ugly.l1 k out (bytesOf s) i) r := by
  intro hr
  have hw : wrap64 (i + 1) = i + 1 := wr (by omega) (by omega)
  have hl := bytesOf_length s
  have ho' : out.length < 140737488355328 := by omega
  have e : rd (bytesOf s) i = bt s i := rd_bytesOf s i
  have c1 : i < ((bytesOf s).length : Int) := by rw [hl]; exact h1
  refine Ev.step (fun k => ?_) hr
  simp only [pretty_ugly.l1, if_pos c1, if_pos h0, e, if_pos ho', Option.bind_some, if_neg hq, hw]
/-- A quotation mark in a string. -/
theorem l1_quote {i : Int} (h0 : 0 ≤ i) (h1 : i < s.size) (hq : bt s i = 34) (p : List Int) (x : Int) (n : Nat) (hx : x ≠ 92) (ho : ((p ++ x :: List.replicate n 92).length : Int) ≤ i) (r : List Int) :
    (n % 2 = 1 → Ev (fun k => pretty_ugly.l1 k ((p ++ x :: List.replicate n 92) ++ [34]) (bytesOf s) (i + 1)) r → Ev (fun k => pretty_ugly.l1 k (p ++ x :: List.replicate n 92) (bytesOf s) i) r) ∧
    (n % 2 = 0 → Ev (fun k => pretty_ugly.l0 k ((p ++ x :: List.replicate n 92) ++ [34]) (bytesOf s) (i + 1)) r → Ev (fun k => pretty_ugly.l1 k (p ++ x :: List.replicate n 92) (bytesOf s) i) r) := by
  have hl := bytesOf_length s
  have hlen : (p ++ x :: List.replicate n 92).length = p.length + n + 1 := by simp; omega
  obtain ⟨out, hout⟩ : ∃ out, out = p ++ x :: List.replicate n 92 := ⟨_, rfl⟩
  rw [← hout] at hlen ho ⊢
  have ho' : out.length < 140737488355328 := by omega
  have hO : (out ++ [34]).length = p.length + n + 2 := by rw [List.length_append, hlen]; rfl
  have w : wrap64 (((out ++ [34]).length : Int) - 2) = (p.length : Int) + (n : Int) := by rw [hO, wr (by omega) (by omega)]; omega
  have e : rd (bytesOf s) i = 34 := by rw [rd_bytesOf s i]; exact hq
  have c1 : i < ((bytesOf s).length : Int) := by rw [hl]; exact h1
  have g := l2_goes hn (out ++ [34]) p x n (by rw [hout]; simp) (by omega) hx i h0 (by omega) r n (Nat.le_refl _)
  have st : ∀ k, pretty_ugly.l1 (k + 1) out (bytesOf s) i = pretty_ugly.l2 k (out ++ [34]) (bytesOf s) i ((p.length : Int) + (n : Int)) := fun k => by
    simp only [pretty_ugly.l1, if_pos c1, if_pos h0, e, if_pos ho', Option.bind_some, if_true, w]
  exact ⟨fun a h => Ev.step st (g.1 a h), fun a h => Ev.step st (g.2 a h)⟩
theorem l1_hexes : ∀ (n : Nat) (i : Int), 0 ≤ i → hexes s n i = true → ∀ (out : List Int), (out.length : Int) ≤ i → ∀ r,
    Ev (fun k => pretty_ugly.l1 k (out ++ slf s n i) (bytesOf s) (i + n)) r → Ev (fun k => pretty_ugly.l1 k out (bytesOf s) i) r
  | 0, i, _, _, out, _, r, hr => by
    rw [slf, List.append_nil, show i + ((0 : Nat) : Int) = i from by omega] at hr
    exact hr
  | n + 1, i, h0, h, out, ho, r, hr => by
    rw [hexes, Bool.and_eq_true] at h
    have hx := h.1
    rw [hex_iff] at hx
    have hi : i < s.size := bt_in (by omega)
    refine l1_char hn h0 hi (by omega) out ho r (l1_hexes n (i + 1) (by omega) h.2 _ (by simp; omega) r ?_)
    rw [slf, show i + ((n + 1 : Nat) : Int) = i + 1 + n from by omega] at hr
    rw [List.append_assoc]
    exact hr
omit hn in
theorem even_end (out : List Int) {x : Int} (h : x ≠ 92) : Even (out ++ [x]) := ⟨out, x, 0, rfl, h⟩
theorem str_goes {i j : Int} (h : StrTo s i j) : ∀ l, At s i l → i + l.length = j → 0 ≤ i → ∀ (out : List Int), Even out → (out.length : Int) ≤ i → ∀ r,
    Ev (fun k => pretty_ugly.l0 k (out ++ l) (bytesOf s) j) r → Ev (fun k => pretty_ugly.l1 k out (bytesOf s) i) r := by
  induction h with
  | done h =>
    rename_i i
    intro l hl e h0 out ⟨p, x, n, he, hx⟩ ho r hr
    have hi : i < s.size := bt_in (by omega)
    have : l = [34] := At.eq hl (m := [34]) ⟨h, trivial⟩ (by simp only [List.length_cons, List.length_nil]; omega)
    rw [this] at hr
    subst he
    exact (l1_quote hn h0 hi h p x (2 * n) hx ho r).2 (by omega) hr
  | char a b c g ih =>
    rename_i i j
    intro l hl e h0 out he ho r hr
    have hi : i < s.size := bt_in (by omega)
    have le := g.le
    cases l with
    | nil => simp at e; omega
    | cons x l =>
      rw [List.length_cons] at e
      have hx := hl.1
      refine l1_char hn h0 hi b out ho r (ih l hl.2 (by omega) (by omega) _ (even_end _ c) (by simp; omega) r ?_)
      rw [hx, List.append_assoc]
      exact hr
  | esc a e g ih =>
    rename_i i m j
    intro l hl el h0 out he ho r hr
    obtain ⟨p, x, n, he, hx⟩ := he
    have hi : i < s.size := bt_in (by omega)
    have le := g.le
    have le2 := escEnd_le e
    -- the parts of l
    obtain ⟨l1, l2, rfl, hl1⟩ : ∃ l1 l2, l = l1 ++ l2 ∧ (l1.length : Int) = m - i := ⟨l.take (m - i).toNat, l.drop (m - i).toNat, (List.take_append_drop _ _).symm, by rw [List.length_take]; omega⟩
    rw [At.append, show i + (l1.length : Int) = m from by omega] at hl
    rw [List.length_append] at el
    have fin : ∀ q, q = out ++ l1 → Even q → Ev (fun k => pretty_ugly.l1 k q (bytesOf s) m) r := fun q hq hE =>
      ih l2 hl.2 (by omega) (by omega) q hE (by rw [hq, List.length_append]; omega) r (by rw [hq, List.append_assoc]; exact hr)
    refine l1_char hn h0 hi (by omega) out ho r ?_
    rw [a]
    have ho2 : ((out ++ [92]).length : Int) ≤ i + 1 := by simp; omega
    unfold escEnd at e
    split at e
    · rename_i c
      have em := Option.some.inj e
      rw [short_iff] at c
      have hi2 : i + 1 < s.size := bt_in (by omega)
      have e1 : l1 = [92, bt s (i + 1)] := At.eq hl.1 (m := [92, bt s (i + 1)]) ⟨a, rfl, trivial⟩ (by simp only [List.length_cons, List.length_nil]; omega)
      have f2 := fin (out ++ [92] ++ [bt s (i + 1)]) (by rw [e1]; simp)
      rw [← em] at f2
      by_cases cq : bt s (i + 1) = 34
      · have e2 : out ++ [92] = p ++ x :: List.replicate (2 * n + 1) 92 := by rw [he, List.replicate_succ']; simp
        rw [cq] at f2
        have f3 := f2 (even_end _ (by decide))
        rw [e2] at f3 ho2 ⊢
        exact (l1_quote hn (by omega) hi2 cq p x (2 * n + 1) hx ho2 r).1 (by omega) f3
      · refine l1_char hn (by omega) hi2 cq _ ho2 r (f2 ?_)
        by_cases c92 : bt s (i + 1) = 92
        · rw [c92, he]
          refine ⟨p, x, n + 1, ?_, hx⟩
          rw [show 2 * (n + 1) = 2 * n + 1 + 1 from by omega, List.replicate_succ', List.replicate_succ']; simp
        · exact even_end _ c92
    · split at e
      · rename_i cu
        split at e
        · rename_i ch
          have em := Option.some.inj e
          have hi2 : i + 1 < s.size := bt_in (by omega)
          have e1 : l1 = 92 :: bt s (i + 1) :: slf s 4 (i + 1 + 1) := At.eq hl.1 (m := 92 :: bt s (i + 1) :: slf s 4 (i + 1 + 1)) ⟨a, rfl, slf_at s 4 _⟩ (by simp only [List.length_cons, slf_length]; omega)
          refine l1_char hn (by omega) hi2 (by omega) _ ho2 r (l1_hexes hn 4 (i + 1 + 1) (by omega) ch _ (by simp; omega) r ?_)
          rw [show i + 1 + 1 + ((4 : Nat) : Int) = m from by omega]
          refine fin _ (by rw [e1]; simp) ?_
          have hx4 := hexes_all 4 (i + 1 + 1) ch (i + 1 + 1 + 1 + 1 + 1) (by omega) (by omega)
          rw [hex_iff] at hx4
          refine ⟨out ++ [92] ++ [bt s (i + 1)] ++ [bt s (i + 1 + 1), bt s (i + 1 + 1 + 1), bt s (i + 1 + 1 + 1 + 1)], bt s (i + 1 + 1 + 1 + 1 + 1), 0, ?_, by omega⟩
          simp [slf]
        · cases e
      · cases e
/-- A whole string. -/
theorem goes_str {i j : Int} (hq : bt s i = 34) (h : StrTo s (i + 1) j) (l : List Int) (hl : At s (i + 1) l) (e : i + 1 + l.length = j) : Goes s i j (34 :: l) := by
  intro h0 out r ho hr
  have h1 : i < s.size := bt_in (by omega)
  have hw : wrap64 (i + 1) = i + 1 := wr (by omega) (by omega)
  have hll := bytesOf_length s
  have ho' : out.length < 140737488355328 := by omega
  have e : rd (bytesOf s) i = 34 := by rw [rd_bytesOf s i]; exact hq
  have c1 : i < ((bytesOf s).length : Int) := by rw [hll]; exact h1
  have c2 : (34 : Int) > 32 := by decide
  refine Ev.step (f := fun k => pretty_ugly.l1 k (out ++ [34]) (bytesOf s) (i + 1)) (fun k => ?_) (str_goes hn h l hl (by omega) (by omega) (out ++ [34]) (even_end _ (by decide)) (by simp; omega) r (by rw [List.append_assoc]; exact hr))
  simp only [pretty_ugly.l0, if_pos c1, if_pos h0, e, if_pos c2, if_pos ho', Option.bind_some, if_true, hw]
end
/-- What may stand in a compact text. -/
def Okl (l : List Int) : Prop := ∀ c ∈ l, 32 ≤ c ∧ c ≤ 255
theorem Okl.ne {l : List Int} (h : Okl l) : ∀ c ∈ l, c ≠ 0 := fun c hc => by have := h c hc; omega
def NV (n : Nat) (s : ByteArray) (i j : Int) : Prop := ∃ l : List Int, Goes s i j l ∧ i + l.length ≤ j ∧ Okl l ∧ (∃ c t, l = c :: t ∧ 32 < c ∧ c ≠ 93 ∧ c ≠ 125) ∧
  ∀ (t : ByteArray) (i' : Int), t.size ≤ 2147483647 → 0 ≤ i' → i' ≤ t.size → At t i' l → numstop (bt t (i' + l.length)) → (∃ p, val t n i' = some (i' + l.length, p)) ∧ Goes t i' (i' + l.length) l
def NM (n : Nat) (s : ByteArray) (i j : Int) : Prop := ∃ l : List Int, Goes s i j l ∧ i + l.length ≤ j ∧ Okl l ∧ (∃ t, l = 34 :: t) ∧
  ∀ (t : ByteArray) (i' : Int), t.size ≤ 2147483647 → 0 ≤ i' → i' ≤ t.size → At t i' l → (∃ r, mems t n i' = some (i' + l.length, r)) ∧ Goes t i' (i' + l.length) l
def NE (n : Nat) (s : ByteArray) (i j : Int) : Prop := ∃ l : List Int, Goes s i j l ∧ i + l.length ≤ j ∧ Okl l ∧ (∃ c t, l = c :: t ∧ 32 < c ∧ c ≠ 93) ∧
  ∀ (t : ByteArray) (i' : Int), t.size ≤ 2147483647 → 0 ≤ i' → i' ≤ t.size → At t i' l → (∃ r, elems t n i' = some (i' + l.length, r)) ∧ Goes t i' (i' + l.length) l
theorem sk_self {s : ByteArray} {i : Int} (h : 32 < bt s i) : sk s i = i := stop_here blank0 s (by rw [blank_not]; omega)
section
variable {s : ByteArray} (hn : s.size ≤ 2147483647)
include hn
theorem goes_one {i c : Int} (e : bt s i = c) (hc : 32 < c ∧ c ≠ 34) : Goes s i (i + 1) [c] := by
  have := goes_plain hn (i := i) (bt_in (by omega)) (by omega) (by omega)
  rw [e] at this
  exact this
/-- A byte, blanks, then more. -/
theorem goes_cons {i j c : Int} {l : List Int} (e : bt s i = c) (hc : 32 < c ∧ c ≠ 34) (g : Goes s (sk s (i + 1)) j l) : Goes s i j (c :: l) := by
  have hi : i < s.size := bt_in (by omega)
  have hk := sk_in (s := s) (i := i + 1) (by omega)
  have a := Goes.trans (goes_one hn e hc) (by simp) (goes_blanks hn (i + 1))
  have b := Goes.trans a (by simp only [List.length_append, List.length_cons, List.length_nil]; omega) g
  exact b
/-- More, blanks, then a byte. -/
theorem goes_snoc {i j c : Int} {l : List Int} (g : Goes s i j l) (hl : i + l.length ≤ j) (hj : j ≤ s.size) (e : bt s (sk s j) = c) (hc : 32 < c ∧ c ≠ 34) : Goes s i (sk s j + 1) (l ++ [c]) := by
  have hk := sk_in (s := s) (i := j) hj
  have a := Goes.trans g hl (goes_blanks hn j)
  rw [List.append_nil] at a
  exact Goes.trans a (by omega) (goes_one hn e hc)
theorem ne_step {n : Nat} (hV : ∀ (i j : Int) p, 0 ≤ i → i ≤ s.size → val s n i = some (j, p) → NV n s i j) (hE : ∀ (i j : Int) r, 0 ≤ i → i ≤ s.size → elems s n i = some (j, r) → NE n s i j) :
    ∀ (i j : Int) r, 0 ≤ i → i ≤ s.size → elems s (n + 1) i = some (j, r) → NE (n + 1) s i j := by
  intro i j r h0 h1 h
  rw [elems] at h
  obtain ⟨⟨m, p⟩, hv, h⟩ := Option.bind_eq_some_iff.1 h
  have lm := (val_le_all s n).1 i m p h1 hv
  obtain ⟨l, gl, ll, ol, ⟨c, t, hl, hc1, hc2, hc3⟩, fl⟩ := hV i m p h0 h1 hv
  have hk := sk_in (s := s) (i := m) lm.2.1
  simp only at h
  by_cases c1 : bt s (sk s m) = 93
  · rw [if_pos c1] at h
    obtain ⟨rfl, rfl⟩ := Prod.mk.inj (Option.some.inj h)
    refine ⟨l ++ [93], goes_snoc hn gl ll lm.2.1 c1 (by decide), by simp only [List.length_append, List.length_cons, List.length_nil]; omega, ?_, ⟨c, t ++ [93], by rw [hl]; rfl, hc1, hc2⟩, ?_⟩
    · intro x hx
      rcases List.mem_append.1 hx with hx | hx
      · exact ol x hx
      · rw [List.mem_singleton.1 hx]; decide
    · intro u i' hu a0 a1 ha
      rw [At.append] at ha
      have e1 : bt u (i' + l.length) = 93 := ha.2.1
      have hin := At.in ha.1 ol.ne a1
      obtain ⟨⟨p', hp'⟩, gu⟩ := fl u i' hu a0 a1 ha.1 (by rw [e1]; exact ⟨rfl, by decide, by decide, by decide⟩)
      have ek : sk u (i' + l.length) = i' + l.length := sk_self (by rw [e1]; decide)
      have el : i' + ((l ++ [93]).length : Int) = i' + l.length + 1 := by simp only [List.length_append, List.length_cons, List.length_nil]; omega
      rw [el]
      refine ⟨⟨[p'], ?_⟩, ?_⟩
      · rw [elems, hp', Option.bind_some]
        simp only [ek, if_pos e1]
      · have := goes_snoc hu gu (Int.le_refl _) hin (c := 93) (by rw [ek]; exact e1) (by decide)
        rw [ek] at this
        exact this
  rw [if_neg c1] at h
  by_cases c2 : bt s (sk s m) = 44
  · rw [if_pos c2] at h
    obtain ⟨⟨j2, r2⟩, he, h⟩ := Option.bind_eq_some_iff.1 h
    obtain ⟨rfl, rfl⟩ := Prod.mk.inj (Option.some.inj h)
    simp only at gl ⊢
    have lk : sk s m < s.size := bt_in (by rw [c2]; decide)
    have hk2 := sk_in (s := s) (i := sk s m + 1) (by omega)
    obtain ⟨l2, gl2, ll2, ol2, ⟨d, t2, hl2, hd1, hd2⟩, fl2⟩ := hE _ j2 r2 (by omega) hk2.2 he
    refine ⟨(l ++ []) ++ 44 :: l2, ?_, by simp only [List.length_append, List.length_cons, List.length_nil]; omega, ?_, ⟨c, t ++ 44 :: l2, by rw [hl]; simp, hc1, hc2⟩, ?_⟩
    · exact Goes.trans (Goes.trans gl ll (goes_blanks hn m)) (by simp only [List.append_nil]; omega) (goes_cons hn c2 (by decide) gl2)
    · intro x hx
      rw [List.append_nil] at hx
      rcases List.mem_append.1 hx with hx | hx
      · exact ol x hx
      · rcases List.mem_cons.1 hx with rfl | hx
        · decide
        · exact ol2 x hx
    · intro u i' hu a0 a1 ha
      rw [List.append_nil] at ha ⊢
      rw [At.append] at ha
      have e1 : bt u (i' + l.length) = 44 := ha.2.1
      have hin := At.in ha.1 ol.ne a1
      have hin2 : i' + l.length < u.size := bt_in (by rw [e1]; decide)
      obtain ⟨⟨p', hp'⟩, gu⟩ := fl u i' hu a0 a1 ha.1 (by rw [e1]; exact ⟨rfl, by decide, by decide, by decide⟩)
      obtain ⟨⟨r', hr'⟩, gu2⟩ := fl2 u (i' + l.length + 1) hu (by omega) (by omega) ha.2.2
      have e2 : bt u (i' + l.length + 1) = d := by have := ha.2.2; rw [hl2] at this; exact this.1
      have ek : sk u (i' + l.length) = i' + l.length := sk_self (by rw [e1]; decide)
      have ek2 : sk u (i' + l.length + 1) = i' + l.length + 1 := sk_self (by rw [e2]; omega)
      have el : i' + ((l ++ 44 :: l2).length : Int) = i' + l.length + 1 + l2.length := by simp only [List.length_append, List.length_cons]; omega
      rw [el]
      refine ⟨⟨p' :: r', ?_⟩, ?_⟩
      · rw [elems, hp', Option.bind_some]
        simp only [ek, e1, ek2, hr', Option.bind_some, if_true, if_neg (show ¬ (44 : Int) = 93 by decide)]
      · exact Goes.trans gu (Int.le_refl _) (goes_cons hu e1 (by decide) (by rw [ek2]; exact gu2))
  · rw [if_neg c2] at h; cases h
theorem nm_step {n : Nat} (hV : ∀ (i j : Int) p, 0 ≤ i → i ≤ s.size → val s n i = some (j, p) → NV n s i j) (hM : ∀ (i j : Int) r, 0 ≤ i → i ≤ s.size → mems s n i = some (j, r) → NM n s i j) :
    ∀ (i j : Int) r, 0 ≤ i → i ≤ s.size → mems s (n + 1) i = some (j, r) → NM (n + 1) s i j := by
  intro i j r h0 h1 h
  rw [mems] at h
  by_cases n0 : ¬ bt s i = 34
  · rw [if_neg n0] at h; cases h
  have c0 : bt s i = 34 := Decidable.not_not.1 n0
  rw [if_pos c0] at h
  obtain ⟨m, hm, h⟩ := Option.bind_eq_some_iff.1 h
  rw [strEnd_iff] at hm
  have lm := hm.le
  have hk := sk_in (s := s) (i := m) lm.2
  by_cases n1 : ¬ bt s (sk s m) = 58
  · rw [if_neg n1] at h; cases h
  have c1 : bt s (sk s m) = 58 := Decidable.not_not.1 n1
  rw [if_pos c1] at h
  have lk : sk s m < s.size := bt_in (by rw [c1]; decide)
  have hk1 := sk_in (s := s) (i := sk s m + 1) (by omega)
  obtain ⟨⟨v, p⟩, hv, h⟩ := Option.bind_eq_some_iff.1 h
  have lv := (val_le_all s n).1 _ v p hk1.2 hv
  have hkv := sk_in (s := s) (i := v) lv.2.1
  obtain ⟨l, gl, ll, ol, ⟨c, t, hl, hc1, hc2, hc3⟩, fl⟩ := hV _ v p (by omega) hk1.2 hv
  simp only at h
  -- the name
  obtain ⟨q, hq⟩ : ∃ q, q = slf s (m - (i + 1)).toNat (i + 1) := ⟨_, rfl⟩
  have aq : At s (i + 1) q := by rw [hq]; exact slf_at s _ _
  have lq : i + 1 + (q.length : Int) = m := by rw [hq, slf_length]; omega
  have oq : Okl q := At.mem aq (fun k a b => ⟨str_chars hm k a (by omega), bt_hi s k⟩)
  have gq := goes_str hn c0 hm q aq lq
  have g1 : Goes s i v (34 :: q ++ 58 :: l) := Goes.trans (a := 34 :: q ++ []) (Goes.trans gq (by simp only [List.length_cons]; omega) (goes_blanks hn m)) (by simp only [List.append_nil, List.length_cons]; omega) (goes_cons hn c1 (by decide) gl) |> fun h => by simpa using h
  have l1 : i + ((34 :: q ++ 58 :: l).length : Int) ≤ v := by simp only [List.length_append, List.length_cons]; omega
  have o1 : Okl (34 :: q ++ 58 :: l) := by
    intro x hx
    rcases List.mem_append.1 hx with hx | hx
    · rcases List.mem_cons.1 hx with rfl | hx
      · decide
      · exact oq x hx
    · rcases List.mem_cons.1 hx with rfl | hx
      · decide
      · exact ol x hx
  -- the head in another text
  have head : ∀ (u : ByteArray) (i' : Int), u.size ≤ 2147483647 → 0 ≤ i' → i' ≤ u.size → At u i' (34 :: q ++ 58 :: l) → numstop (bt u (i' + (34 :: q ++ 58 :: l).length)) →
      (∃ m' p', bt u i' = 34 ∧ strEnd u (i' + 1) = some m' ∧ bt u (sk u m') = 58 ∧ val u n (sk u (sk u m' + 1)) = some (i' + (34 :: q ++ 58 :: l).length, p')) ∧ Goes u i' (i' + (34 :: q ++ 58 :: l).length) (34 :: q ++ 58 :: l) := by
    intro u i' hu a0 a1 ha hs
    rw [At.append] at ha
    have b0 : bt u i' = 34 := ha.1.1
    have el0 : i' + (((34 : Int) :: q).length : Int) = i' + 1 + q.length := by rw [List.length_cons]; omega
    have el : i' + ((34 :: q ++ 58 :: l).length : Int) = i' + 1 + q.length + 1 + l.length := by simp only [List.length_append, List.length_cons]; omega
    rw [el0] at ha
    rw [el] at hs ⊢
    have b1 : bt u (i' + 1 + q.length) = 58 := ha.2.1
    have hin0 : i' < u.size := bt_in (by rw [b0]; decide)
    have hin1 : i' + 1 + q.length < u.size := bt_in (by rw [b1]; decide)
    have ag := At.ag aq ha.1.2
    have hs' := str_tr hm (ag.sub (Int.le_refl _) (by omega))
    rw [show i + 1 + (i' + 1 - (i + 1)) = i' + 1 from by omega, show m + (i' + 1 - (i + 1)) = i' + 1 + q.length from by omega] at hs'
    have e2 : bt u (i' + 1 + q.length + 1) = c := by have := ha.2.2; rw [hl] at this; exact this.1
    obtain ⟨⟨p', hp'⟩, gu⟩ := fl u (i' + 1 + q.length + 1) hu (by omega) (by omega) ha.2.2 hs
    have ek1 : sk u (i' + 1 + q.length) = i' + 1 + q.length := sk_self (by rw [b1]; decide)
    have ek2 : sk u (i' + 1 + q.length + 1) = i' + 1 + q.length + 1 := sk_self (by rw [e2]; exact hc1)
    refine ⟨⟨i' + 1 + q.length, p', b0, strEnd_iff.2 hs', by rw [ek1]; exact b1, by rw [ek1, ek2]; exact hp'⟩, ?_⟩
    exact Goes.trans (goes_str hu b0 hs' q ha.1.2 rfl) (by simp only [List.length_cons]; omega) (goes_cons hu b1 (by decide) (by rw [ek2]; exact gu))
  by_cases c2 : bt s (sk s v) = 125
  · rw [if_pos c2] at h
    obtain ⟨rfl, rfl⟩ := Prod.mk.inj (Option.some.inj h)
    refine ⟨(34 :: q ++ 58 :: l) ++ [125], goes_snoc hn g1 l1 lv.2.1 c2 (by decide), by rw [List.length_append, List.length_cons, List.length_nil]; omega, ?_, ⟨_, rfl⟩, ?_⟩
    · intro x hx
      rcases List.mem_append.1 hx with hx | hx
      · exact o1 x hx
      · rw [List.mem_singleton.1 hx]; decide
    · intro u i' hu a0 a1 ha
      rw [At.append] at ha
      obtain ⟨L, hL⟩ : ∃ L, L = 34 :: q ++ 58 :: l := ⟨_, rfl⟩
      rw [← hL] at ha head o1 ⊢
      have e1 : bt u (i' + L.length) = 125 := ha.2.1
      have hin := At.in ha.1 o1.ne a1
      obtain ⟨⟨m', p', x1, x2, x3, x4⟩, gu⟩ := head u i' hu a0 a1 ha.1 (by rw [e1]; exact ⟨rfl, by decide, by decide, by decide⟩)
      have ek : sk u (i' + L.length) = i' + L.length := sk_self (by rw [e1]; decide)
      have el : i' + ((L ++ [125]).length : Int) = i' + L.length + 1 := by simp only [List.length_append, List.length_cons, List.length_nil]; omega
      rw [el]
      refine ⟨⟨([⟨i', m'⟩], [p']), ?_⟩, ?_⟩
      · rw [mems, if_pos x1, x2, Option.bind_some, if_pos x3, x4, Option.bind_some]
        simp only [ek, if_pos e1]
      · have := goes_snoc hu gu (Int.le_refl _) hin (c := 125) (by rw [ek]; exact e1) (by decide)
        rw [ek] at this
        exact this
  rw [if_neg c2] at h
  by_cases c3 : bt s (sk s v) = 44
  · rw [if_pos c3] at h
    obtain ⟨⟨j2, r2⟩, he, h⟩ := Option.bind_eq_some_iff.1 h
    obtain ⟨rfl, rfl⟩ := Prod.mk.inj (Option.some.inj h)
    simp only at g1 ⊢
    have lkv : sk s v < s.size := bt_in (by rw [c3]; decide)
    have hk2 := sk_in (s := s) (i := sk s v + 1) (by omega)
    obtain ⟨l2, gl2, ll2, ol2, ⟨t2, hl2⟩, fl2⟩ := hM _ j2 r2 (by omega) hk2.2 he
    refine ⟨((34 :: q ++ 58 :: l) ++ []) ++ 44 :: l2, ?_, ?_, ?_, ⟨_, rfl⟩, ?_⟩
    · exact Goes.trans (Goes.trans g1 l1 (goes_blanks hn v)) (by rw [List.append_nil]; omega) (goes_cons hn c3 (by decide) gl2)
    · rw [List.append_nil, List.length_append, List.length_cons]; omega
    · intro x hx
      rw [List.append_nil] at hx
      rcases List.mem_append.1 hx with hx | hx
      · exact o1 x hx
      · rcases List.mem_cons.1 hx with rfl | hx
        · decide
        · exact ol2 x hx
    · intro u i' hu a0 a1 ha
      rw [List.append_nil] at ha ⊢
      rw [At.append] at ha
      obtain ⟨L, hL⟩ : ∃ L, L = 34 :: q ++ 58 :: l := ⟨_, rfl⟩
      rw [← hL] at ha head o1 ⊢
      have e1 : bt u (i' + L.length) = 44 := ha.2.1
      have hin := At.in ha.1 o1.ne a1
      have hin2 : i' + L.length < u.size := bt_in (by rw [e1]; decide)
      obtain ⟨⟨m', p', x1, x2, x3, x4⟩, gu⟩ := head u i' hu a0 a1 ha.1 (by rw [e1]; exact ⟨rfl, by decide, by decide, by decide⟩)
      obtain ⟨⟨r', hr'⟩, gu2⟩ := fl2 u (i' + L.length + 1) hu (by omega) (by omega) ha.2.2
      have e2 : bt u (i' + L.length + 1) = 34 := by have := ha.2.2; rw [hl2] at this; exact this.1
      have ek : sk u (i' + L.length) = i' + L.length := sk_self (by rw [e1]; decide)
      have ek2 : sk u (i' + L.length + 1) = i' + L.length + 1 := sk_self (by rw [e2]; decide)
      have el : i' + ((L ++ 44 :: l2).length : Int) = i' + L.length + 1 + l2.length := by simp only [List.length_append, List.length_cons]; omega
      rw [el]
      refine ⟨⟨(⟨i', m'⟩ :: r'.1, p' :: r'.2), ?_⟩, ?_⟩
      · rw [mems, if_pos x1, x2, Option.bind_some, if_pos x3, x4, Option.bind_some]
        simp only [ek, e1, ek2, hr', Option.bind_some, if_true, if_neg (show ¬ (44 : Int) = 125 by decide)]
      · exact Goes.trans gu (Int.le_refl _) (goes_cons hu e1 (by decide) (by rw [ek2]; exact gu2))
  · rw [if_neg c3] at h; cases h
theorem nv_word {n : Nat} (w : List Int) (i : Int) (h : At s i w) (hw : ∃ c t, w = c :: t ∧ 32 < c ∧ c ≠ 93 ∧ c ≠ 125) (ho : ∀ c ∈ w, 34 < c ∧ c ≤ 255)
    (f : ∀ (u : ByteArray) (i' : Int), At u i' w → ∃ p, val u n i' = some (i' + w.length, p)) : NV n s i (i + w.length) := by
  refine ⟨w, goes_list hn w i h (fun c hc => by have := ho c hc; omega), Int.le_refl _, fun c hc => by have := ho c hc; omega, hw, fun u i' hu a0 a1 ha _ => ⟨f u i' ha, goes_list hu w i' ha (fun c hc => by have := ho c hc; omega)⟩⟩
theorem nv_step {n : Nat} (hM : ∀ (i j : Int) r, 0 ≤ i → i ≤ s.size → mems s n i = some (j, r) → NM n s i j) (hE : ∀ (i j : Int) r, 0 ≤ i → i ≤ s.size → elems s n i = some (j, r) → NE n s i j) :
    ∀ (i j : Int) p, 0 ≤ i → i ≤ s.size → val s (n + 1) i = some (j, p) → NV (n + 1) s i j := by
  intro i j p h0 h1 h
  rw [val] at h
  by_cases c1 : bt s i = 123
  · rw [if_pos c1] at h
    have hi : i < s.size := bt_in (by rw [c1]; decide)
    have hk := sk_in (s := s) (i := i + 1) (by omega)
    by_cases d : bt s (sk s (i + 1)) = 125
    · rw [if_pos d] at h
      obtain ⟨rfl, rfl⟩ := Prod.mk.inj (Option.some.inj h)
      refine ⟨[123, 125], goes_cons hn c1 (by decide) (goes_one hn d (by decide)), by simp only [List.length_cons, List.length_nil]; omega, by unfold Okl; decide, ⟨_, _, rfl, by decide, by decide, by decide⟩, ?_⟩
      intro u i' hu a0 a1 ha _
      have b0 : bt u i' = 123 := ha.1
      have b1 : bt u (i' + 1) = 125 := ha.2.1
      have ek : sk u (i' + 1) = i' + 1 := sk_self (by rw [b1]; decide)
      have el : i' + (([123, 125] : List Int).length : Int) = i' + 1 + 1 := by simp only [List.length_cons, List.length_nil]; omega
      rw [el]
      refine ⟨⟨⟨6, i', i' + 1 + 1, [], []⟩, ?_⟩, goes_cons hu b0 (by decide) (by rw [ek]; exact goes_one hu b1 (by decide))⟩
      rw [val, if_pos b0, ek, if_pos b1]
    · rw [if_neg d] at h
      obtain ⟨⟨j2, r2⟩, he, h⟩ := Option.bind_eq_some_iff.1 h
      obtain ⟨rfl, rfl⟩ := Prod.mk.inj (Option.some.inj h)
      obtain ⟨l, gl, ll, ol, ⟨t, hl⟩, fl⟩ := hM _ j2 r2 (by omega) hk.2 he
      refine ⟨123 :: l, goes_cons hn c1 (by decide) gl, by simp only [List.length_cons]; omega, ?_, ⟨_, _, rfl, by decide, by decide, by decide⟩, ?_⟩
      · intro x hx
        rcases List.mem_cons.1 hx with rfl | hx
        · decide
        · exact ol x hx
      · intro u i' hu a0 a1 ha _
        have b0 : bt u i' = 123 := ha.1
        have hin : i' < u.size := bt_in (by rw [b0]; decide)
        have b1 : bt u (i' + 1) = 34 := by have := ha.2; rw [hl] at this; exact this.1
        have ek : sk u (i' + 1) = i' + 1 := sk_self (by rw [b1]; decide)
        obtain ⟨⟨r', hr'⟩, gu⟩ := fl u (i' + 1) hu (by omega) (by omega) ha.2
        have el : i' + ((123 :: l : List Int).length : Int) = i' + 1 + l.length := by simp only [List.length_cons]; omega
        rw [el]
        refine ⟨⟨⟨6, i', i' + 1 + l.length, r'.1, r'.2⟩, ?_⟩, goes_cons hu b0 (by decide) (by rw [ek]; exact gu)⟩
        rw [val, if_pos b0, ek, if_neg (by rw [b1]; decide), hr', Option.bind_some]
  rw [if_neg c1] at h
  by_cases c2 : bt s i = 91
  · rw [if_pos c2] at h
    have hi : i < s.size := bt_in (by rw [c2]; decide)
    have hk := sk_in (s := s) (i := i + 1) (by omega)
    by_cases d : bt s (sk s (i + 1)) = 93
    · rw [if_pos d] at h
      obtain ⟨rfl, rfl⟩ := Prod.mk.inj (Option.some.inj h)
      refine ⟨[91, 93], goes_cons hn c2 (by decide) (goes_one hn d (by decide)), by simp only [List.length_cons, List.length_nil]; omega, by unfold Okl; decide, ⟨_, _, rfl, by decide, by decide, by decide⟩, ?_⟩
      intro u i' hu a0 a1 ha _
      have b0 : bt u i' = 91 := ha.1
      have b1 : bt u (i' + 1) = 93 := ha.2.1
      have ek : sk u (i' + 1) = i' + 1 := sk_self (by rw [b1]; decide)
      have el : i' + (([91, 93] : List Int).length : Int) = i' + 1 + 1 := by simp only [List.length_cons, List.length_nil]; omega
      rw [el]
      refine ⟨⟨⟨5, i', i' + 1 + 1, [], []⟩, ?_⟩, goes_cons hu b0 (by decide) (by rw [ek]; exact goes_one hu b1 (by decide))⟩
      rw [val, if_neg (by rw [b0]; decide), if_pos b0, ek, if_pos b1]
    · rw [if_neg d] at h
      obtain ⟨⟨j2, r2⟩, he, h⟩ := Option.bind_eq_some_iff.1 h
      obtain ⟨rfl, rfl⟩ := Prod.mk.inj (Option.some.inj h)
      obtain ⟨l, gl, ll, ol, ⟨c, t, hl, hc1, hc2⟩, fl⟩ := hE _ j2 r2 (by omega) hk.2 he
      refine ⟨91 :: l, goes_cons hn c2 (by decide) gl, by simp only [List.length_cons]; omega, ?_, ⟨_, _, rfl, by decide, by decide, by decide⟩, ?_⟩
      · intro x hx
        rcases List.mem_cons.1 hx with rfl | hx
        · decide
        · exact ol x hx
      · intro u i' hu a0 a1 ha _
        have b0 : bt u i' = 91 := ha.1
        have hin : i' < u.size := bt_in (by rw [b0]; decide)
        have b1 : bt u (i' + 1) = c := by have := ha.2; rw [hl] at this; exact this.1
        have ek : sk u (i' + 1) = i' + 1 := sk_self (by rw [b1]; exact hc1)
        obtain ⟨⟨r', hr'⟩, gu⟩ := fl u (i' + 1) hu (by omega) (by omega) ha.2
        have el : i' + ((91 :: l : List Int).length : Int) = i' + 1 + l.length := by simp only [List.length_cons]; omega
        rw [el]
        refine ⟨⟨⟨5, i', i' + 1 + l.length, [], r'⟩, ?_⟩, goes_cons hu b0 (by decide) (by rw [ek]; exact gu)⟩
        rw [val, if_neg (by rw [b0]; decide), if_pos b0, ek, if_neg (by rw [b1]; exact hc2), hr', Option.bind_some]
  rw [if_neg c2] at h
  by_cases c3 : bt s i = 34
  · rw [if_pos c3] at h
    obtain ⟨m, hm, h⟩ := Option.bind_eq_some_iff.1 h
    obtain ⟨rfl, rfl⟩ := Prod.mk.inj (Option.some.inj h)
    rw [strEnd_iff] at hm
    have lm := hm.le
    obtain ⟨q, hq⟩ : ∃ q, q = slf s (m - (i + 1)).toNat (i + 1) := ⟨_, rfl⟩
    have aq : At s (i + 1) q := by rw [hq]; exact slf_at s _ _
    have lq : i + 1 + (q.length : Int) = m := by rw [hq, slf_length]; omega
    have oq : Okl q := At.mem aq (fun k a b => ⟨str_chars hm k a (by omega), bt_hi s k⟩)
    refine ⟨34 :: q, goes_str hn c3 hm q aq lq, by rw [List.length_cons]; omega, ?_, ⟨_, _, rfl, by decide, by decide, by decide⟩, ?_⟩
    · intro x hx
      rcases List.mem_cons.1 hx with rfl | hx
      · decide
      · exact oq x hx
    · intro u i' hu a0 a1 ha _
      have b0 : bt u i' = 34 := ha.1
      have el : i' + ((34 :: q : List Int).length : Int) = i' + 1 + q.length := by rw [List.length_cons]; omega
      have ag := At.ag aq ha.2
      have hs' := str_tr hm (ag.sub (Int.le_refl _) (by omega))
      rw [show i + 1 + (i' + 1 - (i + 1)) = i' + 1 from by omega, show m + (i' + 1 - (i + 1)) = i' + 1 + q.length from by omega] at hs'
      rw [el]
      refine ⟨⟨⟨4, i', i' + 1 + q.length, [], []⟩, ?_⟩, goes_str hu b0 hs' q ha.2 rfl⟩
      rw [val, if_neg (by rw [b0]; decide), if_neg (by rw [b0]; decide), if_pos b0, strEnd_iff.2 hs', Option.bind_some]
  rw [if_neg c3] at h
  by_cases c4 : bt s i = 45 ∨ dig (bt s i) = true
  · rw [if_pos c4] at h
    obtain ⟨m, hm, h⟩ := Option.bind_eq_some_iff.1 h
    obtain ⟨rfl, rfl⟩ := Prod.mk.inj (Option.some.inj h)
    have lm := numEnd_le hm h1
    obtain ⟨q, hq⟩ : ∃ q, q = slf s ((m - i - 1).toNat + 1) i := ⟨_, rfl⟩
    have aq : At s i q := by rw [hq]; exact slf_at s _ _
    have lq : i + (q.length : Int) = m := by rw [hq, slf_length]; omega
    have oq : ∀ c ∈ q, 43 ≤ c ∧ c ≤ 101 := At.mem aq (fun k a b => num_chars hm h1 k a (by omega))
    have gq := goes_list hn q i aq (fun c hc => by have := oq c hc; omega)
    rw [lq] at gq
    have hc : bt s i = 45 ∨ (48 ≤ bt s i ∧ bt s i ≤ 57) := by rw [dig_iff] at c4; exact c4
    refine ⟨q, gq, by omega, fun c hc => by have := oq c hc; omega, ⟨bt s i, slf s (m - i - 1).toNat (i + 1), hq, by omega, by omega, by omega⟩, ?_⟩
    intro u i' hu a0 a1 ha hs
    have ag := At.ag aq ha
    have b0 : bt u i' = bt s i := by
      have := ag i (Int.le_refl _) (by omega)
      rw [show i + (i' - i) = i' from by omega] at this
      exact this
    have g := num_tr hm h1 (ag.sub (Int.le_refl _) (by omega)) (by rw [show m + (i' - i) = i' + q.length from by omega]; exact hs)
    rw [show i + (i' - i) = i' from by omega, show m + (i' - i) = i' + q.length from by omega] at g
    refine ⟨⟨⟨3, i', i' + q.length, [], []⟩, ?_⟩, goes_list hu q i' ha (fun c hc => by have := oq c hc; omega)⟩
    rw [val, if_neg (by rw [b0]; exact c1), if_neg (by rw [b0]; exact c2), if_neg (by rw [b0]; exact c3), if_pos (by rw [b0]; exact c4), g, Option.bind_some]
  rw [if_neg c4] at h
  by_cases v1 : wordAt s i [110, 117, 108, 108] = true
  · rw [if_pos v1] at h
    obtain ⟨rfl, rfl⟩ := Prod.mk.inj (Option.some.inj h)
    refine nv_word hn [110, 117, 108, 108] i (wordAt_at.1 v1) ⟨_, _, rfl, by decide, by decide, by decide⟩ (by decide) (fun u i' ha => ?_)
    have b0 : bt u i' = 110 := ha.1
    refine ⟨⟨0, i', i' + 4, [], []⟩, ?_⟩
    rw [val, b0, if_neg (by decide), if_neg (by decide), if_neg (by decide), if_neg (by decide), if_pos (wordAt_at.2 ha)]
    rfl
  rw [if_neg v1] at h
  by_cases v2 : wordAt s i [102, 97, 108, 115, 101] = true
  · rw [if_pos v2] at h
    obtain ⟨rfl, rfl⟩ := Prod.mk.inj (Option.some.inj h)
    refine nv_word hn [102, 97, 108, 115, 101] i (wordAt_at.1 v2) ⟨_, _, rfl, by decide, by decide, by decide⟩ (by decide) (fun u i' ha => ?_)
    have b0 : bt u i' = 102 := ha.1
    refine ⟨⟨1, i', i' + 5, [], []⟩, ?_⟩
    rw [val, b0, if_neg (by decide), if_neg (by decide), if_neg (by decide), if_neg (by decide), if_neg (by rw [wordAt, b0]; simp), if_pos (wordAt_at.2 ha)]
    rfl
  rw [if_neg v2] at h
  by_cases v3 : wordAt s i [116, 114, 117, 101] = true
  · rw [if_pos v3] at h
    obtain ⟨rfl, rfl⟩ := Prod.mk.inj (Option.some.inj h)
    refine nv_word hn [116, 114, 117, 101] i (wordAt_at.1 v3) ⟨_, _, rfl, by decide, by decide, by decide⟩ (by decide) (fun u i' ha => ?_)
    have b0 : bt u i' = 116 := ha.1
    refine ⟨⟨2, i', i' + 4, [], []⟩, ?_⟩
    rw [val, b0, if_neg (by decide), if_neg (by decide), if_neg (by decide), if_neg (by decide), if_neg (by rw [wordAt, b0]; simp), if_neg (by rw [wordAt, b0]; simp), if_pos (wordAt_at.2 ha)]
    rfl
  rw [if_neg v3] at h; cases h
theorem all_n : ∀ n : Nat, (∀ (i j : Int) p, 0 ≤ i → i ≤ s.size → val s n i = some (j, p) → NV n s i j) ∧ (∀ (i j : Int) r, 0 ≤ i → i ≤ s.size → mems s n i = some (j, r) → NM n s i j) ∧ (∀ (i j : Int) r, 0 ≤ i → i ≤ s.size → elems s n i = some (j, r) → NE n s i j)
  | 0 => ⟨fun i j p _ _ h => by simp [val] at h, fun i j p _ _ h => by simp [mems] at h, fun i j p _ _ h => by simp [elems] at h⟩
  | n + 1 => by
    obtain ⟨a, b, c⟩ := all_n n
    exact ⟨nv_step hn b c, nm_step hn a b, ne_step hn a c⟩
/-- The whole of Ugly. -/
theorem ugly_ev {l : List Int} (g : Goes s 0 s.size l) : Ev (fun k => impl_PrUgly.f k s) (strOfNums l) := by
  have hl := bytesOf_length s
  have e : Ev (fun k => pretty_ugly.l0 k [] (bytesOf s) 0) l := g (by omega) [] l (by simp) (ev_one fun k => by
    have : ¬ ((s.size : Int) < ((bytesOf s).length : Int)) := by rw [hl]; omega
    simp only [pretty_ugly.l0, if_neg this, List.nil_append])
  have c1 : s.size ≤ 140737488351232 := by omega
  have c2 : (bytesOf s).length ≤ 140737488351232 := by omega
  unfold impl_PrUgly.f pretty_Ugly.f pretty_ugly.f
  simp only [if_pos c1, if_pos c2]
  exact Ev.bind (f := fun _ r => some (strOfNums r)) e (Ev.now _)
end
theorem at_bytes : ∀ (l : List Int) (s : ByteArray) (p : List Int), bytesOf s = p ++ l → At s p.length l
  | [], _, _, _ => trivial
  | c :: l, s, p, h => ⟨bt_mid h rfl, by
    have := at_bytes l s (p ++ [c]) (by rw [h]; simp)
    rw [List.length_append] at this
    exact this⟩
theorem FnPrUglyAgain : laws_FnPrUglyAgain.Pure := by
  intro a ha
  unfold laws_FnPrUglyAgain.f laws_prPlaces.f
  by_cases c0 : (a.size : Int) > 2147483647
  · exact ⟨0, by rw [if_pos c0]⟩
  simp only [if_neg c0]
  by_cases c1 : (a.size : Int) > 4096
  · exact ⟨0, by simp only [if_pos c1, Option.bind_some, Bool.false_eq_true, if_false]⟩
  simp only [if_neg c1]
  have hn : a.size ≤ 2147483647 := by omega
  obtain ⟨n, hne⟩ : ∃ n, n = 2 * a.size + 1 := ⟨_, rfl⟩
  have hP := Places_ev hn n (by omega)
  have hk := sk_in (s := a) (i := 0) (by omega)
  have no : ((∀ p j, val a n (sk a 0) = some (j, p) → sk a j ≠ a.size)) → ∃ k, ((spec_Places.f k a).bind fun bt285 => some (bt285.1, bt285.2.1, bt285.2.2.1, bt285.2.2.2.1, bt285.2.2.2.2.1, bt285.2.2.2.2.2)).bind (fun bt310 => (if bt310.2.2.2.2.2 = true then ((impl_PrUgly.f k a).bind fun t321 => ((spec_Places.f k t321).bind fun bt322 => (if bt322.2.2.2.2.2 = true then (if (t321.size : Int) ≤ (a.size : Int) then ((impl_PrUgly.f k t321).bind fun t333 => (some (t333.toList == t321.toList))) else (some false)) else (some false)))) else (some true))) = some true := by
    intro h
    refine Ev.rounds (Ev.bind (Ev.bind (hP.2 h) (Ev.now _)) ?_)
    simp only [Bool.false_eq_true, if_false]
    exact Ev.now _
  cases e : val a n (sk a 0) with
  | none => exact no (fun p j h => by rw [e] at h; cases h)
  | some v =>
  obtain ⟨j, p⟩ := v
  by_cases c2 : sk a j ≠ a.size
  · exact no (fun p' j' h => by rw [e] at h; obtain ⟨rfl, rfl⟩ := Prod.mk.inj (Option.some.inj h); exact c2)
  have c3 : sk a j = a.size := Decidable.not_not.1 c2
  have lj := (val_le_all a n).1 _ j p hk.2 e
  obtain ⟨l, gl, ll, ol, ⟨c, t, hl, hc, _, _⟩, fl⟩ := (all_n hn n).1 _ j p hk.1 hk.2 e
  have g0 : Goes a 0 a.size l := by
    have x := Goes.trans (Goes.trans (goes_blanks hn 0) (by simp only [List.length_nil]; omega) gl) (by rw [List.nil_append]; omega) (goes_blanks hn j)
    rw [c3, List.append_nil, List.nil_append] at x
    exact x
  have hB : IsB l := fun x hx => by have := ol x hx; omega
  have u1 := ugly_ev hn g0
  obtain ⟨U, hU⟩ : ∃ U, U = strOfNums l := ⟨_, rfl⟩
  have bU : bytesOf U = l := by rw [hU, bytesOf_str hB]
  have sU : U.size = l.length := size_of bU
  have aU : At U 0 l := at_bytes l U [] (by rw [bU]; rfl)
  have eend : bt U (0 + l.length) = 0 := bt_out U (by omega)
  obtain ⟨⟨p', hp'⟩, gU⟩ := fl U 0 (by omega) (Int.le_refl _) (by omega) aU (by rw [eend]; exact ⟨rfl, by decide, by decide, by decide⟩)
  have el : (0 : Int) + l.length = U.size := by omega
  rw [el] at gU hp'
  have b0 : bt U 0 = c := by rw [hl] at aU; exact aU.1
  have k0 : sk U 0 = 0 := sk_self (by rw [b0]; exact hc)
  have kU : sk U U.size = U.size := stop_here blank0 U (by rw [bt_out U (Int.le_refl _)]; rfl)
  have PU := (Places_ev (s := U) (by omega) n (by omega)).1 p' U.size (by rw [k0]; exact hp') kU
  have u2 := ugly_ev (s := U) (by omega) gU
  rw [← hU] at u1 u2
  refine Ev.rounds (Ev.bind (Ev.bind (hP.1 p j e c3) (Ev.now _)) ?_)
  simp only [if_true]
  refine Ev.bind u1 (Ev.bind PU ?_)
  have c4 : (U.size : Int) ≤ (a.size : Int) := by omega
  simp only [if_true, if_pos c4]
  refine Ev.bind u2 ?_
  simp only [beq_self_eq_true]
  exact Ev.now _
end Go.Proofs.Ytdndddembndnhaa.Pure
