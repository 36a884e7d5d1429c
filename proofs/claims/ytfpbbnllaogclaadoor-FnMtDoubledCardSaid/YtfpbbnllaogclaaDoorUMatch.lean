/- Bytes of texts as lists of whole numbers: plain laws; The reference's reading of UTF-8: plain definitions, and that the reference's functions compute them; What unicode/utf8's DecodeRuneInString gives: the character that stands first, by the plain reading of UTF-8; Texts in UTF-8 as characters one behind the other: plain laws; What unicode/utf8's DecodeLastRuneInString gives of a text that ends with a character; Patterns with stars and question marks: plain laws, and what the matcher computes; What the matcher computes of a text and a pattern in UTF-8; The matcher's door; texts' characters are determined. -/
import Derived.Test.YtfpbbnllaogclaaDoorWMore
import Derived.Laws.BitsLemmas
import Derived.Test.YtfpbbnllaogclaaDoorPAx0
import Derived.Test.YtfpbbnllaogclaaDoorPAx1
import Derived.Test.YtfpbbnllaogclaaDoorPAx11
import Derived.Test.YtfpbbnllaogclaaDoorPAx12
import Derived.Test.YtfpbbnllaogclaaDoorPAx13
import Derived.Test.YtfpbbnllaogclaaDoorPAx14
import Derived.Test.YtfpbbnllaogclaaDoorPAx15
import Derived.Test.YtfpbbnllaogclaaDoorPAx16
import Derived.Test.YtfpbbnllaogclaaDoorPAx17
import Derived.Test.YtfpbbnllaogclaaDoorPAx3
import Derived.Test.YtfpbbnllaogclaaDoorPAx4
import Derived.Test.YtfpbbnllaogclaaDoorPAx5
import Derived.Test.YtfpbbnllaogclaaDoorPAx6
import Derived.Test.YtfpbbnllaogclaaDoorPAx7
import Derived.Test.YtfpbbnllaogclaaDoorPAx8
import Derived.Test.YtfpbbnllaogclaaDoorPAx9
section
namespace Go.Proofs.YtfpbbnllaogclaaDoor.J
open Go.RowKit Go.Proofs.YtfpbbnllaogclaaDoorW.PrintWords Go.Proofs.YtfpbbnllaogclaaDoorW.PrintLast

def IsB (l : List Int) : Prop := ∀ x ∈ l, 0 ≤ x ∧ x ≤ 255
theorem isB_bytesOf (s : ByteArray) : IsB (bytesOf s) := by
  intro x hx
  simp only [bytesOf, List.mem_map] at hx
  obtain ⟨b, _, rfl⟩ := hx
  have := b.toNat_lt
  omega
theorem IsB.append {a b : List Int} (h : IsB a) (k : IsB b) : IsB (a ++ b) := fun x hx => by
  rcases List.mem_append.1 hx with g | g
  · exact h x g
  · exact k x g
theorem IsB.left {a b : List Int} (h : IsB (a ++ b)) : IsB a := fun x hx => h x (List.mem_append_left _ hx)
theorem IsB.right {a b : List Int} (h : IsB (a ++ b)) : IsB b := fun x hx => h x (List.mem_append_right _ hx)
theorem isB_nil : IsB [] := fun x hx => by cases hx
theorem isB_cons {a : Int} {l : List Int} : IsB (a :: l) ↔ (0 ≤ a ∧ a ≤ 255) ∧ IsB l := by
  simp [IsB]
theorem u8_back (b : UInt8) : UInt8.ofNat ((b.toNat : Int)).toNat = b := by simp
theorem bytesOf_str {l : List Int} (h : IsB l) : bytesOf (strOfNums l) = l := by
  simp only [bytesOf, strOfNums_data, List.map_map]
  conv => rhs; rw [← List.map_id l]
  apply List.map_congr_left
  intro x hx
  have := h x hx
  show ((UInt8.ofNat x.toNat).toNat : Int) = x
  rw [UInt8.toNat_ofNat']
  omega
theorem str_bytesOf (s : ByteArray) : strOfNums (bytesOf s) = s := by
  apply ByteArray.ext
  apply Array.ext'
  rw [strOfNums_data]
  simp only [bytesOf, List.map_map]
  conv => rhs; rw [← List.map_id s.data.toList]
  apply List.map_congr_left
  intro b _
  exact u8_back b
theorem bytesOf_inj {a b : ByteArray} (h : bytesOf a = bytesOf b) : a = b := by
  rw [← str_bytesOf a, h, str_bytesOf]
theorem bytesOf_append (a b : ByteArray) : bytesOf (a ++ b) = bytesOf a ++ bytesOf b := by
  simp [bytesOf]
theorem bytesOf_extract (s : ByteArray) (a b : Nat) : bytesOf (s.extract a b) = ((bytesOf s).take b).drop a := by
  simp [bytesOf, List.map_drop, List.map_take, List.extract, List.drop_take]
theorem bt_get (s : ByteArray) (i : Int) : bt s i = (bytesOf s).getD i.toNat 0 := (rd_bytesOf s i).symm
theorem bt_nat (s : ByteArray) (i : Nat) : bt s i = (bytesOf s).getD i 0 := by rw [bt_get, Int.toNat_natCast]
theorem bt_mid {s : ByteArray} {p q : List Int} {c : Int} (h : bytesOf s = p ++ c :: q) {i : Int} (hi : i = p.length) : bt s i = c := by
  rw [bt_get, h, hi, Int.toNat_natCast]
  simp [List.getD_eq_getElem?_getD]
theorem toList_iff (a b : ByteArray) : a.toList = b.toList ↔ bytesOf a = bytesOf b := by
  constructor
  · intro h
    rw [Go.ByteArray.toList_eq, Go.ByteArray.toList_eq] at h
    simp only [bytesOf, h]
  · intro h
    rw [bytesOf_inj h]
theorem size_of {s : ByteArray} {l : List Int} (h : bytesOf s = l) : s.size = l.length := by rw [← h, bytesOf_length]
theorem wr {x : Int} (h0 : -9223372036854775808 ≤ x) (h1 : x ≤ 9223372036854775807) : wrap64 x = x := by
  unfold wrap64; omega
theorem bt_lo (s : ByteArray) (i : Int) : 0 ≤ bt s i := (bt_range s i).1
theorem bt_hi (s : ByteArray) (i : Int) : bt s i ≤ 255 := (bt_range s i).2
theorem bt_out (s : ByteArray) {i : Int} (h : (s.size : Int) ≤ i) : bt s i = 0 := by
  unfold bt; rw [dif_neg (by omega)]
/-- A byte that is not 0 stands in the text. -/
theorem bt_in {s : ByteArray} {i : Int} (h : bt s i ≠ 0) : i < (s.size : Int) := by
  rcases Int.lt_or_le i s.size with g | g
  · exact g
  · exact absurd (bt_out s g) h
theorem ev_const {α : Type} {g : Nat → Option α} {r : α} (h : ∀ k, g k = some r) : Ev g r := ⟨0, fun k _ => h k⟩
theorem ev_one {α : Type} {g : Nat → Option α} {r : α} (h : ∀ k, g (k + 1) = some r) : Ev g r := Ev.step h (Ev.now r)
theorem ev_det {α : Type} {g : Nat → Option α} {r q : α} (h : Ev g r) (h' : Ev g q) : r = q := by
  obtain ⟨a, ha⟩ := h
  obtain ⟨b, hb⟩ := h'
  have := (ha (max a b) (Nat.le_max_left _ _)).symm.trans (hb (max a b) (Nat.le_max_right _ _))
  exact Option.some.inj this
end Go.Proofs.YtfpbbnllaogclaaDoor.J
end

section
namespace Go.Proofs.YtfpbbnllaogclaaDoor.J
open Go.RowKit Go.Proofs.YtfpbbnllaogclaaDoor.PA Go.Proofs.YtfpbbnllaogclaaDoorW.PrintWords Go.Proofs.YtfpbbnllaogclaaDoorW.PrintLast
attribute [local irreducible] bt rd
set_option linter.unusedSimpArgs false
set_option linter.unusedVariables false

def conts (s : ByteArray) : Nat → Int → Int → Option Int
  | 0, _, a => some a
  | n + 1, p, a => if 128 ≤ bt s p ∧ bt s p ≤ 191 then conts s n (p + 1) (a * 64 + bt s p - 128) else none
def multi (s : ByteArray) (i a : Int) (n : Nat) (m : Int) : Option (Int × Int) :=
  if (s.size : Int) - i ≤ n then none else
  match conts s n (i + 1) a with
  | none => none
  | some r => if r < m ∨ r > 1114111 ∨ (55296 ≤ r ∧ r ≤ 57343) then none else some (r, n + 1)
/-- The character that stands at i, and how many bytes it has. -/
def chr (s : ByteArray) (i : Int) : Option (Int × Int) :=
  if bt s i < 128 then some (bt s i, 1)
  else if 194 ≤ bt s i ∧ bt s i ≤ 223 then multi s i (bt s i - 192) 1 128
  else if 224 ≤ bt s i ∧ bt s i ≤ 239 then multi s i (bt s i - 224) 2 2048
  else if 240 ≤ bt s i ∧ bt s i ≤ 244 then multi s i (bt s i - 240) 3 65536
  else none
theorem multi_len {s : ByteArray} {i a m r n' : Int} {n : Nat} (h : multi s i a n m = some (r, n')) : n' = n + 1 ∧ i + n' ≤ s.size ∧ 0 ≤ r - m := by
  unfold multi at h
  split at h
  · cases h
  · split at h
    · cases h
    · split at h
      · cases h
      · simp only [Option.some.injEq, Prod.mk.injEq] at h
        omega
theorem chr_len {s : ByteArray} {i r n : Int} (hi : i < s.size) (h : chr s i = some (r, n)) : 1 ≤ n ∧ n ≤ 4 ∧ i + n ≤ s.size := by
  unfold chr at h
  split at h
  · simp only [Option.some.injEq, Prod.mk.injEq] at h; omega
  · split at h
    · have := multi_len h; omega
    · split at h
      · have := multi_len h; omega
      · split at h
        · have := multi_len h; omega
        · cases h
theorem conts_ev {s : ByteArray} (hn : s.size ≤ 140737488351232) (i m : Int) (n : Nat) (hn4 : n ≤ 3) (h0 : 0 ≤ i) (hi : n < (s.size : Int) - i) :
    ∀ (d : Nat) (x a : Int), 1 ≤ x → x + d = n + 1 → 0 ≤ a → a < 2 ^ (6 + 6 * x.toNat) →
    (∀ r, conts s d (i + x) a = some r → Ev (fun k => spec_Character.l0 k s i a n m x) (if r < m ∨ r > 1114111 ∨ (55296 ≤ r ∧ r ≤ 57343) then (65533, 1, false) else (r, (n : Int) + 1, true))) ∧
    (conts s d (i + x) a = none → Ev (fun k => spec_Character.l0 k s i a n m x) (65533, 1, false))
  | 0, x, a, hx, hd, ha, hb => by
    have hw : wrap64 ((n : Int) + 1) = (n : Int) + 1 := wr (by omega) (by omega)
    refine ⟨fun r h => ?_, fun h => by simp [conts] at h⟩
    simp only [conts, Option.some.injEq] at h
    subst h
    by_cases c1 : a < m
    · rw [if_pos (.inl c1)]
      exact ev_one fun k => by simp (disch := omega) only [spec_Character.l0, if_pos, if_neg]
    by_cases c2 : a > 1114111
    · rw [if_pos (.inr (.inl c2))]
      exact ev_one fun k => by simp (disch := omega) only [spec_Character.l0, if_pos, if_neg]
    by_cases c3 : 55296 ≤ a ∧ a ≤ 57343
    · rw [if_pos (.inr (.inr c3))]
      refine ev_one fun k => ?_
      simp (disch := omega) only [spec_Character.l0, if_pos, if_neg, spec_high.f, spec_low.f, Option.bind_some]
      by_cases c4 : a ≤ 56319
      · rw [decide_eq_true c4]; rfl
      · rw [decide_eq_false c4]
        simp (disch := omega) only [Bool.false_eq_true, if_false, if_pos, Option.bind_some, decide_eq_true c3.2, if_true]
    · rw [if_neg (by omega)]
      refine ev_one fun k => ?_
      simp (disch := omega) only [spec_Character.l0, if_neg, spec_high.f, spec_low.f, hw]
      by_cases c4 : 55296 ≤ a
      · simp (disch := omega) only [if_pos, decide_eq_false (show ¬ a ≤ 56319 by omega), Option.bind_some, Bool.false_eq_true, if_false, decide_eq_false (show ¬ a ≤ 57343 by omega)]
      · simp (disch := omega) only [if_neg, Option.bind_some, Bool.false_eq_true, if_false]
  | d + 1, x, a, hx, hd, ha, hb => by
    have hp : a < 16777216 := Int.lt_of_lt_of_le hb (by
      have : x.toNat ≤ 3 := by omega
      have : (2 : Int) ^ (6 + 6 * x.toNat) ≤ 2 ^ 24 := by
        have h2 : (2 : Nat) ^ (6 + 6 * x.toNat) ≤ 2 ^ 24 := Nat.pow_le_pow_right (by omega) (by omega)
        have h3 : ((2 ^ (6 + 6 * x.toNat) : Nat) : Int) ≤ ((2 ^ 24 : Nat) : Int) := Int.ofNat_le.2 h2
        simpa using h3
      omega)
    have hw1 : wrap64 (i + x) = i + x := wr (by omega) (by omega)
    have hlo := bt_lo s (i + x)
    have hhi := bt_hi s (i + x)
    have hw2 : wrap64 (bt s (i + x)) = bt s (i + x) := wr (by omega) (by omega)
    have hw3 : wrap64 (a * 64) = a * 64 := wr (by omega) (by omega)
    have hw4 : wrap64 (a * 64 + bt s (i + x)) = a * 64 + bt s (i + x) := wr (by omega) (by omega)
    have hw5 : wrap64 (a * 64 + bt s (i + x) - 128) = a * 64 + bt s (i + x) - 128 := wr (by omega) (by omega)
    have hw6 : wrap64 (x + 1) = x + 1 := wr (by omega) (by omega)
    by_cases c : 128 ≤ bt s (i + x) ∧ bt s (i + x) ≤ 191
    · have hpow : (2 : Int) ^ (6 + 6 * (x + 1).toNat) = 2 ^ (6 + 6 * x.toNat) * 64 := by
        rw [show (x + 1).toNat = x.toNat + 1 from by omega, show 6 + 6 * (x.toNat + 1) = (6 + 6 * x.toNat) + 6 from by omega, Int.pow_add]; rfl
      have ih := conts_ev hn i m n hn4 h0 hi d (x + 1) (a * 64 + bt s (i + x) - 128) (by omega) (by omega) (by omega) (by rw [hpow]; omega)
      have e : conts s (d + 1) (i + x) a = conts s d (i + (x + 1)) (a * 64 + bt s (i + x) - 128) := by
        rw [conts, if_pos c, Int.add_assoc]
      have st : ∀ k, spec_Character.l0 (k + 1) s i a n m x = spec_Character.l0 k s i (a * 64 + bt s (i + x) - 128) n m (x + 1) := fun k => by
        simp (disch := omega) only [spec_Character.l0, if_pos, if_neg, hw1, hw2, hw3, hw4, hw5, hw6]
      rw [e]
      exact ⟨fun r h => Ev.step st (ih.1 r h), fun h => Ev.step st (ih.2 h)⟩
    · have e : conts s (d + 1) (i + x) a = none := by rw [conts, if_neg c]
      rw [e]
      refine ⟨fun r h => (by cases h), fun _ => ev_one fun k => ?_⟩
      by_cases c1 : bt s (i + x) < 128
      · simp (disch := omega) only [spec_Character.l0, if_pos, hw1, hw2]
      · simp (disch := omega) only [spec_Character.l0, if_pos, if_neg, hw1, hw2]
theorem multi_ev {s : ByteArray} (hn : s.size ≤ 140737488351232) {i a m : Int} {n : Nat} (hn4 : n ≤ 3) (h0 : 0 ≤ i) (hi : i < s.size) (ha : 0 ≤ a) (hb : a < 64) :
    Ev (fun k => spec_Character.j2 k s i a n m) (match multi s i a n m with | some (r, n) => (r, n, true) | none => (65533, 1, false)) := by
  have hw : wrap64 ((s.size : Int) - i) = (s.size : Int) - i := wr (by omega) (by omega)
  unfold multi
  by_cases c : (s.size : Int) - i ≤ n
  · rw [if_pos c]
    exact ev_one fun k => by simp only [spec_Character.j2, hw, if_pos c]
  · rw [if_neg c]
    have g := conts_ev hn i m n hn4 h0 (by omega) n 1 a (by omega) (by omega) ha (by
      show a < 2 ^ (6 + 6 * (1 : Int).toNat)
      have : (2 : Int) ^ (6 + 6 * (1 : Int).toNat) = 4096 := by decide
      omega)
    refine Ev.step (f := fun k => spec_Character.l0 k s i a n m 1) (fun k => by simp only [spec_Character.j2, hw, if_neg c]) ?_
    cases h : conts s n (i + 1) a with
    | none => exact g.2 h
    | some r =>
      have := g.1 r h
      simp only
      split
      · rename_i h2
        split at h2
        · cases h2
        · rename_i h3
          rw [if_neg h3] at this
          simp only [Option.some.injEq, Prod.mk.injEq] at h2
          obtain ⟨rfl, rfl⟩ := h2
          exact this
      · rename_i h2
        split at h2
        · rename_i h3
          rw [if_pos h3] at this
          exact this
        · cases h2
theorem chr_ev {s : ByteArray} (hn : s.size ≤ 140737488351232) {i : Int} (h0 : 0 ≤ i) (hi : i < s.size) :
    Ev (fun k => spec_Character.f k s i) (match chr s i with | some (r, n) => (r, n, true) | none => (65533, 1, false)) := by
  have hlo := bt_lo s i
  have hhi := bt_hi s i
  have hw : wrap64 (bt s i) = bt s i := wr (by omega) (by omega)
  unfold chr
  by_cases c1 : bt s i < 128
  · rw [if_pos c1]
    exact ev_const fun k => by simp (disch := omega) only [spec_Character.f, if_pos, hw]
  rw [if_neg c1]
  by_cases c2 : 194 ≤ bt s i ∧ bt s i ≤ 223
  · rw [if_pos c2]
    have hw2 : wrap64 (bt s i - 192) = bt s i - 192 := wr (by omega) (by omega)
    have := multi_ev hn (n := 1) (m := 128) (by omega) h0 hi (a := bt s i - 192) (by omega) (by omega)
    refine Ev.congr (f := fun k => spec_Character.j0 k s i (bt s i) true) (fun k => ?_) (Ev.step (fun k => ?_) this)
    · simp (disch := omega) only [spec_Character.f, if_pos, if_neg, hw, decide_eq_true c2.2]
    · simp only [spec_Character.j0, if_true, hw2]; rfl
  rw [if_neg c2]
  have st0 : ∀ k, spec_Character.f k s i = spec_Character.j0 k s i (bt s i) false := fun k => by
    by_cases c : 194 ≤ bt s i
    · simp (disch := omega) only [spec_Character.f, if_pos, if_neg, hw, decide_eq_false (show ¬ bt s i ≤ 223 by omega)]
    · simp (disch := omega) only [spec_Character.f, if_pos, if_neg, hw]
  by_cases c3 : 224 ≤ bt s i ∧ bt s i ≤ 239
  · rw [if_pos c3]
    have hw2 : wrap64 (bt s i - 224) = bt s i - 224 := wr (by omega) (by omega)
    have := multi_ev hn (n := 2) (m := 2048) (by omega) h0 hi (a := bt s i - 224) (by omega) (by omega)
    refine Ev.congr st0 (Ev.step (f := fun k => spec_Character.j1 k s i (bt s i) true) (fun k => ?_) (Ev.step (fun k => ?_) this))
    · simp (disch := omega) only [spec_Character.j0, Bool.false_eq_true, if_false, if_pos, decide_eq_true c3.2]
    · simp only [spec_Character.j1, if_true, hw2]; rfl
  rw [if_neg c3]
  have st1 : ∀ k, spec_Character.j0 (k + 1) s i (bt s i) false = spec_Character.j1 k s i (bt s i) false := fun k => by
    by_cases c : 224 ≤ bt s i
    · simp (disch := omega) only [spec_Character.j0, Bool.false_eq_true, if_false, if_pos, decide_eq_false (show ¬ bt s i ≤ 239 by omega)]
    · simp (disch := omega) only [spec_Character.j0, Bool.false_eq_true, if_false, if_neg]
  by_cases c4 : 240 ≤ bt s i ∧ bt s i ≤ 244
  · rw [if_pos c4]
    have hw2 : wrap64 (bt s i - 240) = bt s i - 240 := wr (by omega) (by omega)
    have := multi_ev hn (n := 3) (m := 65536) (by omega) h0 hi (a := bt s i - 240) (by omega) (by omega)
    refine Ev.congr st0 (Ev.step st1 (Ev.step (fun k => ?_) this))
    simp (disch := omega) only [spec_Character.j1, Bool.false_eq_true, if_false, if_pos, hw2]
    rfl
  · rw [if_neg c4]
    refine Ev.congr st0 (Ev.step st1 (ev_one fun k => ?_))
    by_cases c : 240 ≤ bt s i
    · simp (disch := omega) only [spec_Character.j1, Bool.false_eq_true, if_false, if_pos, if_neg]
    · simp (disch := omega) only [spec_Character.j1, Bool.false_eq_true, if_false, if_neg]
/-- From i on the text is UTF-8. -/
inductive Utf (s : ByteArray) : Int → Prop
  | done {i : Int} : (s.size : Int) ≤ i → Utf s i
  | next {i r n : Int} : i < (s.size : Int) → chr s i = some (r, n) → Utf s (i + n) → Utf s i
theorem utf_l0 {s : ByteArray} (hn : s.size ≤ 140737488351232) : ∀ (d : Nat) (i : Int), 0 ≤ i → (s.size : Int) - i ≤ d → ∃ b, Ev (fun k => spec_UTF8.l0 k s i) b ∧ (b = true ↔ Utf s i) := by
  intro d
  induction d with
  | zero =>
    intro i h0 hd
    exact ⟨true, ev_one fun k => by simp (disch := omega) only [spec_UTF8.l0, if_neg], fun _ => .done (by omega), fun _ => rfl⟩
  | succ d ih =>
    intro i h0 hd
    by_cases hi : i < s.size
    · have e := chr_ev hn h0 hi
      have st : ∀ k, spec_UTF8.l0 (k + 1) s i = (spec_Character.f k s i).bind fun b => if b.2.2 = true then spec_UTF8.l0 k s (wrap64 (i + b.2.1)) else some false := fun k => by
        simp (disch := omega) only [spec_UTF8.l0, if_pos]
      cases hc : chr s i with
      | none =>
        rw [hc] at e
        refine ⟨false, Ev.step st (Ev.bind (f := fun k b => if b.2.2 = true then spec_UTF8.l0 k s (wrap64 (i + b.2.1)) else some false) e (ev_const fun _ => rfl)), (fun h => by cases h), fun h => ?_⟩
        cases h with
        | done h => omega
        | next _ h => rw [hc] at h; cases h
      | some p =>
        obtain ⟨r, n⟩ := p
        rw [hc] at e
        have hl := chr_len hi hc
        obtain ⟨b, hb, hu⟩ := ih (i + n) (by omega) (by omega)
        have hw : wrap64 (i + n) = i + n := wr (by omega) (by omega)
        refine ⟨b, Ev.step st (Ev.bind (f := fun k b => if b.2.2 = true then spec_UTF8.l0 k s (wrap64 (i + b.2.1)) else some false) e (by simpa only [if_true, hw] using hb)), fun h => .next hi hc (hu.1 h), fun h => ?_⟩
        cases h with
        | done h => omega
        | next _ h g =>
          rw [hc] at h
          simp only [Option.some.injEq, Prod.mk.injEq] at h
          obtain ⟨rfl, rfl⟩ := h
          exact hu.2 g
    · exact ⟨true, ev_one fun k => by simp (disch := omega) only [spec_UTF8.l0, if_neg], fun _ => .done (by omega), fun _ => rfl⟩
theorem utf_ev {s : ByteArray} (hn : s.size ≤ 140737488351232) : ∃ b, Ev (fun k => spec_UTF8.f k s) b ∧ (b = true ↔ Utf s 0) := by
  obtain ⟨b, h, g⟩ := utf_l0 hn s.size 0 (by omega) (by omega)
  exact ⟨b, h, g⟩
end Go.Proofs.YtfpbbnllaogclaaDoor.J
end

section
namespace Go.Proofs.YtfpbbnllaogclaaDoor.J
open Go.RowKit Go.Proofs.YtfpbbnllaogclaaDoor.PA Go.Proofs.YtfpbbnllaogclaaDoorW.PrintWords Go.Proofs.YtfpbbnllaogclaaDoorW.PrintLast
set_option linter.unusedSimpArgs false
set_option linter.unusedVariables false

def tabF : List Int := tabG4
def tabA : List S159 := tabG5
def clsF (c : Int) : Int :=
  if c < 128 then 240 else if c < 194 then 241 else if c < 224 then 2 else if c < 225 then 19 else if c < 237 then 3 else if c < 238 then 35 else if c < 240 then 3 else if c < 241 then 52 else if c < 244 then 4 else if c < 245 then 68 else 241
theorem first_all : ∀ c : Fin 256, tabF.getD c.val 0 = clsF (c.val : Int) := by decide +kernel
theorem first_at {c : Int} (h0 : 0 ≤ c) (h1 : c ≤ 255) : rd tabG4 c = clsF c := by
  have h := first_all ⟨c.toNat, by omega⟩
  simp only [Int.toNat_of_nonneg h0] at h
  exact h
theorem bad_all : ∀ c : Fin 256, Go.bits .or .i32 (Go.bits .andNot .i32 (wrap32 (c.val : Int)) (wrap32 (wrap32 241 * 2147483648) / 2147483648)) (Go.bits .and .i32 65533 (wrap32 (wrap32 241 * 2147483648) / 2147483648)) = 65533 := by decide +kernel
theorem bad_at {c : Int} (h0 : 0 ≤ c) (h1 : c ≤ 255) : Go.bits .or .i32 (Go.bits .andNot .i32 (wrap32 c) (wrap32 (wrap32 241 * 2147483648) / 2147483648)) (Go.bits .and .i32 65533 (wrap32 (wrap32 241 * 2147483648) / 2147483648)) = 65533 := by
  have h := bad_all ⟨c.toNat, by omega⟩
  simp only [Int.toNat_of_nonneg h0] at h
  exact h
theorem wr32 {x : Int} (h0 : -2147483648 ≤ x) (h1 : x ≤ 2147483647) : wrap32 x = x := by unfold wrap32; omega

theorem slow_bad {s : ByteArray} (hs : 0 < s.size) (h0 : 0 ≤ bt s 0) (h1 : bt s 0 ≤ 255) (hx : rd tabG4 (bt s 0) = 241) : Ev (fun k => utf8_decodeRuneInStringSlow.f k s) (65533, 1) := by
  refine ev_const fun k => ?_
  have hb := bad_at h0 h1
  have c1 : ¬ ((s.size : Int) < 1) := by omega
  have c2 : 0 < (s.size : Int) := by omega
  have c3 : bt s 0 < 256 := by omega
  have c4 : (241 : Int) ≥ 240 := by decide
  simp only [utf8_decodeRuneInStringSlow.f, hx, if_neg c1, if_pos c2, if_pos h0, if_pos c3, if_pos c4, hb]
theorem slow_at {s : ByteArray} {x lo hi n : Int} (hs : 0 < s.size) (h0 : 0 ≤ bt s 0) (h1 : bt s 0 ≤ 255) (hx : rd tabG4 (bt s 0) = x) (hge : ¬ x ≥ 240) (hq0 : 0 ≤ x / 16) (hq1 : x / 16 < 16)
    (hsz : wrap64 (Go.bits .and .u8 x 7) = n) (hlo : (rd_T159 tabG5 (x / 16)).f0 = lo) (hhi : (rd_T159 tabG5 (x / 16)).f1 = hi) (hn : 2 ≤ n) :
    ((s.size : Int) < n → Ev (fun k => utf8_decodeRuneInStringSlow.f k s) (65533, 1)) ∧
    (n ≤ (s.size : Int) → ¬ (lo ≤ bt s 1 ∧ bt s 1 ≤ hi) → Ev (fun k => utf8_decodeRuneInStringSlow.f k s) (65533, 1)) ∧
    (n ≤ (s.size : Int) → lo ≤ bt s 1 → bt s 1 ≤ hi → ∀ r, Ev (fun k => utf8_decodeRuneInStringSlow.j0 k s (bt s 0) n (bt s 1) false) r → Ev (fun k => utf8_decodeRuneInStringSlow.f k s) r) := by
  have c1 : ¬ ((s.size : Int) < 1) := by omega
  have c2 : 0 < (s.size : Int) := by omega
  have c3 : bt s 0 < 256 := by omega
  refine ⟨fun c5 => ?_, fun c5 c6 => ?_, fun c5 c6 c7 r h => ?_⟩
  · refine ev_const fun k => ?_
    simp only [utf8_decodeRuneInStringSlow.f, hx, if_neg c1, if_pos c2, if_pos h0, if_pos c3, if_neg hge, if_pos hq0, if_pos hq1, hsz, if_pos c5]
  · have c5' : ¬ ((s.size : Int) < n) := by omega
    have c8 : 1 < (s.size : Int) := by omega
    have e : Ev (fun k => utf8_decodeRuneInStringSlow.j0 k s (bt s 0) n (bt s 1) true) (65533, 1) := ev_one fun k => by simp only [utf8_decodeRuneInStringSlow.j0, if_true]
    refine Ev.congr (fun k => ?_) e
    by_cases c9 : bt s 1 < lo
    · simp only [utf8_decodeRuneInStringSlow.f, hx, if_neg c1, if_pos c2, if_pos h0, if_pos c3, if_neg hge, if_pos hq0, if_pos hq1, hsz, if_neg c5', if_pos c8, hlo, hhi, if_pos c9]
    · have c10 : decide (hi < bt s 1) = true := decide_eq_true (by omega)
      simp only [utf8_decodeRuneInStringSlow.f, hx, if_neg c1, if_pos c2, if_pos h0, if_pos c3, if_neg hge, if_pos hq0, if_pos hq1, hsz, if_neg c5', if_pos c8, hlo, hhi, if_neg c9, c10]
  · have c5' : ¬ ((s.size : Int) < n) := by omega
    have c8 : 1 < (s.size : Int) := by omega
    have c9 : ¬ (bt s 1 < lo) := by omega
    have c10 : decide (hi < bt s 1) = false := decide_eq_false (by omega)
    refine Ev.congr (fun k => ?_) h
    simp only [utf8_decodeRuneInStringSlow.f, hx, if_neg c1, if_pos c2, if_pos h0, if_pos c3, if_neg hge, if_pos hq0, if_pos hq1, hsz, if_neg c5', if_pos c8, hlo, hhi, if_neg c9, c10]
theorem and63 {b : Int} (h0 : 0 ≤ b) (h1 : b ≤ 255) : wrap32 (Go.bits .and .u8 b 63) = b % 64 := by rw [u8_and63 _ h0 (by omega), wr32 (by omega) (by omega)]
theorem or2 {p q : Int} (a0 : 0 ≤ p) (a1 : p < 32) (b0 : 0 ≤ q) (b1 : q < 64) : Go.bits .or .i32 (wrap32 (p * 64)) q = p * 64 + q := by
  rw [wr32 (by omega) (by omega), i32_or6 _ _ (by omega) (by omega) (by omega) (by omega) (by omega)]
theorem or3 {p q r : Int} (a0 : 0 ≤ p) (a1 : p < 16) (b0 : 0 ≤ q) (b1 : q < 64) (c0 : 0 ≤ r) (c1 : r < 64) : Go.bits .or .i32 (Go.bits .or .i32 (wrap32 (p * 4096)) (wrap32 (q * 64))) r = (p * 64 + q) * 64 + r := by
  have e1 : Go.bits .or .i32 (wrap32 (p * 4096)) (wrap32 (q * 64)) = p * 4096 + q * 64 := by
    rw [wr32 (by omega) (by omega), wr32 (by omega) (by omega), i32_or12 _ _ (by omega) (by omega) (by omega) (by omega) (by omega)]
  rw [e1, i32_or6 _ _ (by omega) (by omega) (by omega) (by omega) (by omega)]
  omega
theorem or4 {p q r v : Int} (a0 : 0 ≤ p) (a1 : p < 8) (b0 : 0 ≤ q) (b1 : q < 64) (c0 : 0 ≤ r) (c1 : r < 64) (d0 : 0 ≤ v) (d1 : v < 64) :
    Go.bits .or .i32 (Go.bits .or .i32 (Go.bits .or .i32 (wrap32 (p * 262144)) (wrap32 (q * 4096))) (wrap32 (r * 64))) v = ((p * 64 + q) * 64 + r) * 64 + v := by
  have e1 : Go.bits .or .i32 (wrap32 (p * 262144)) (wrap32 (q * 4096)) = p * 262144 + q * 4096 := by
    rw [wr32 (by omega) (by omega), wr32 (by omega) (by omega), i32_or18 _ _ (by omega) (by omega) (by omega) (by omega) (by omega)]
  have e2 : Go.bits .or .i32 (p * 262144 + q * 4096) (wrap32 (r * 64)) = p * 262144 + q * 4096 + r * 64 := by
    rw [wr32 (by omega) (by omega), i32_or12 _ _ (by omega) (by omega) (by omega) (by omega) (by omega)]
  rw [e1, e2, i32_or6 _ _ (by omega) (by omega) (by omega) (by omega) (by omega)]
  omega
theorem mask63 {b : Int} (h2 : 128 ≤ b) (h3 : b ≤ 191) : wrap32 (Go.bits .and .u8 b 63) = b - 128 := by rw [and63 (by omega) (by omega)]; omega
theorem slow_2 {s : ByteArray} {c b : Int} (h0 : 194 ≤ c) (h1 : c ≤ 223) (h2 : 128 ≤ b) (h3 : b ≤ 191) : Ev (fun k => utf8_decodeRuneInStringSlow.j0 k s c 2 b false) ((c - 192) * 64 + b - 128, 2) := by
  refine ev_one fun k => ?_
  have e1 : wrap32 (Go.bits .and .u8 c 31) = c - 192 := by rw [u8_and31 _ (by omega) (by omega), wr32 (by omega) (by omega)]; omega
  have e3 := or2 (p := c - 192) (q := b - 128) (by omega) (by omega) (by omega) (by omega)
  have e4 : (c - 192) * 64 + (b - 128) = (c - 192) * 64 + b - 128 := by omega
  have c1 : (2 : Int) ≤ 2 := by decide
  simp only [utf8_decodeRuneInStringSlow.j0, Bool.false_eq_true, if_false, if_pos c1, e1, mask63 h2 h3, e3, e4]
theorem j0_more {s : ByteArray} {c b n : Int} (hn : 2 < n) (hs : 2 < (s.size : Int)) :
    (¬ (128 ≤ bt s 2 ∧ bt s 2 ≤ 191) → Ev (fun k => utf8_decodeRuneInStringSlow.j0 k s c n b false) (65533, 1)) ∧
    (128 ≤ bt s 2 → bt s 2 ≤ 191 → ∀ r, Ev (fun k => utf8_decodeRuneInStringSlow.j1 k s c n b (bt s 2) false) r → Ev (fun k => utf8_decodeRuneInStringSlow.j0 k s c n b false) r) := by
  have c1 : ¬ (n ≤ 2) := by omega
  refine ⟨fun h => ?_, fun h0 h1 r h => ?_⟩
  · have e : Ev (fun k => utf8_decodeRuneInStringSlow.j1 k s c n b (bt s 2) true) (65533, 1) := ev_one fun k => by simp only [utf8_decodeRuneInStringSlow.j1, if_true]
    refine Ev.step (fun k => ?_) e
    by_cases c2 : bt s 2 < 128
    · simp only [utf8_decodeRuneInStringSlow.j0, Bool.false_eq_true, if_false, if_neg c1, if_pos hs, if_pos c2]
    · have c3 : decide (191 < bt s 2) = true := decide_eq_true (by omega)
      simp only [utf8_decodeRuneInStringSlow.j0, Bool.false_eq_true, if_false, if_neg c1, if_pos hs, if_neg c2, c3]
  · have c2 : ¬ (bt s 2 < 128) := by omega
    have c3 : decide (191 < bt s 2) = false := decide_eq_false (by omega)
    refine Ev.step (fun k => ?_) h
    simp only [utf8_decodeRuneInStringSlow.j0, Bool.false_eq_true, if_false, if_neg c1, if_pos hs, if_neg c2, c3]
theorem slow_3 {s : ByteArray} {c b d : Int} (h0 : 224 ≤ c) (h1 : c ≤ 239) (h2 : 128 ≤ b) (h3 : b ≤ 191) (h4 : 128 ≤ d) (h5 : d ≤ 191) : Ev (fun k => utf8_decodeRuneInStringSlow.j1 k s c 3 b d false) (((c - 224) * 64 + b - 128) * 64 + d - 128, 3) := by
  refine ev_one fun k => ?_
  have e1 : wrap32 (Go.bits .and .u8 c 15) = c - 224 := by rw [u8_and15 _ (by omega) (by omega), wr32 (by omega) (by omega)]; omega
  have e3 := or3 (p := c - 224) (q := b - 128) (r := d - 128) (by omega) (by omega) (by omega) (by omega) (by omega) (by omega)
  have e4 : ((c - 224) * 64 + (b - 128)) * 64 + (d - 128) = ((c - 224) * 64 + b - 128) * 64 + d - 128 := by omega
  have c1 : (3 : Int) ≤ 3 := by decide
  simp only [utf8_decodeRuneInStringSlow.j1, Bool.false_eq_true, if_false, if_pos c1, e1, mask63 h2 h3, mask63 h4 h5, e3, e4]
theorem slow_4 {s : ByteArray} {c b d : Int} (hs : 3 < (s.size : Int)) (h0 : 240 ≤ c) (h1 : c ≤ 244) (h2 : 128 ≤ b) (h3 : b ≤ 191) (h4 : 128 ≤ d) (h5 : d ≤ 191) :
    (¬ (128 ≤ bt s 3 ∧ bt s 3 ≤ 191) → Ev (fun k => utf8_decodeRuneInStringSlow.j1 k s c 4 b d false) (65533, 1)) ∧
    (128 ≤ bt s 3 → bt s 3 ≤ 191 → Ev (fun k => utf8_decodeRuneInStringSlow.j1 k s c 4 b d false) ((((c - 240) * 64 + b - 128) * 64 + d - 128) * 64 + bt s 3 - 128, 4)) := by
  have c1 : ¬ ((4 : Int) ≤ 3) := by decide
  refine ⟨fun h => ?_, fun h6 h7 => ?_⟩
  · refine ev_one fun k => ?_
    by_cases c2 : bt s 3 < 128
    · simp only [utf8_decodeRuneInStringSlow.j1, Bool.false_eq_true, if_false, if_neg c1, if_pos hs, if_pos c2]
    · have c3 : 191 < bt s 3 := by omega
      simp only [utf8_decodeRuneInStringSlow.j1, Bool.false_eq_true, if_false, if_neg c1, if_pos hs, if_neg c2, if_pos c3]
  · refine ev_one fun k => ?_
    have c2 : ¬ (bt s 3 < 128) := by omega
    have c3 : ¬ (191 < bt s 3) := by omega
    have e1 : wrap32 (Go.bits .and .u8 c 7) = c - 240 := by rw [u8_and7 _ (by omega) (by omega), wr32 (by omega) (by omega)]; omega
    have e3 := or4 (p := c - 240) (q := b - 128) (r := d - 128) (v := bt s 3 - 128) (by omega) (by omega) (by omega) (by omega) (by omega) (by omega) (by omega) (by omega)
    have e4 : (((c - 240) * 64 + (b - 128)) * 64 + (d - 128)) * 64 + (bt s 3 - 128) = (((c - 240) * 64 + b - 128) * 64 + d - 128) * 64 + bt s 3 - 128 := by omega
    simp only [utf8_decodeRuneInStringSlow.j1, Bool.false_eq_true, if_false, if_neg c1, if_pos hs, if_neg c2, if_neg c3, e1, mask63 h2 h3, mask63 h4 h5, mask63 h6 h7, e3, e4]
/-- What it gives: the character and its bytes, or U+FFFD and 1. -/
def dec (s : ByteArray) : Int × Int := match chr s 0 with | some p => p | none => (65533, 1)
theorem dec_none {s : ByteArray} (h : chr s 0 = none) : dec s = (65533, 1) := by unfold dec; rw [h]
theorem dec_some {s : ByteArray} {p : Int × Int} (h : chr s 0 = some p) : dec s = p := by unfold dec; rw [h]
theorem rows_of (x : Int) (h : x = 2 ∨ x = 19 ∨ x = 3 ∨ x = 35 ∨ x = 52 ∨ x = 4 ∨ x = 68) : ¬ x ≥ 240 ∧ 0 ≤ x / 16 ∧ x / 16 < 16 := by omega
theorem chr_2 {s : ByteArray} (h0 : 194 ≤ bt s 0) (h1 : bt s 0 ≤ 223) : chr s 0 = multi s 0 (bt s 0 - 192) 1 128 := by
  unfold chr; rw [if_neg (by omega), if_pos ⟨h0, h1⟩]
theorem chr_3 {s : ByteArray} (h0 : 224 ≤ bt s 0) (h1 : bt s 0 ≤ 239) : chr s 0 = multi s 0 (bt s 0 - 224) 2 2048 := by
  unfold chr; rw [if_neg (by omega), if_neg (by omega), if_pos ⟨h0, h1⟩]
theorem chr_4 {s : ByteArray} (h0 : 240 ≤ bt s 0) (h1 : bt s 0 ≤ 244) : chr s 0 = multi s 0 (bt s 0 - 240) 3 65536 := by
  unfold chr; rw [if_neg (by omega), if_neg (by omega), if_neg (by omega), if_pos ⟨h0, h1⟩]
theorem chr_bad {s : ByteArray} (h : 128 ≤ bt s 0 ∧ bt s 0 ≤ 193 ∨ 245 ≤ bt s 0) : chr s 0 = none := by
  unfold chr; rw [if_neg (by omega), if_neg (by omega), if_neg (by omega), if_neg (by omega)]
theorem conts_1 {s : ByteArray} {p a : Int} : conts s 1 p a = if 128 ≤ bt s p ∧ bt s p ≤ 191 then some (a * 64 + bt s p - 128) else none := rfl
theorem conts_succ {s : ByteArray} {n : Nat} {p a : Int} : conts s (n + 1) p a = if 128 ≤ bt s p ∧ bt s p ≤ 191 then conts s n (p + 1) (a * 64 + bt s p - 128) else none := rfl
theorem multi_short {s : ByteArray} {a m : Int} {n : Nat} (h : (s.size : Int) ≤ n) : multi s 0 a n m = none := by unfold multi; rw [if_pos (by omega)]
theorem multi_none {s : ByteArray} {a m : Int} {n : Nat} (h : conts s n 1 a = none) : multi s 0 a n m = none := by
  unfold multi; split
  · rfl
  · rw [show (0 : Int) + 1 = 1 from rfl, h]
theorem multi_some {s : ByteArray} {a m r : Int} {n : Nat} (hs : (n : Int) < s.size) (h : conts s n 1 a = some r) : multi s 0 a n m = if r < m ∨ r > 1114111 ∨ (55296 ≤ r ∧ r ≤ 57343) then none else some (r, (n : Int) + 1) := by
  unfold multi; rw [if_neg (by omega), show (0 : Int) + 1 = 1 from rfl, h]
theorem slow_ev {s : ByteArray} (hs : 0 < s.size) (hb : 128 ≤ bt s 0) : Ev (fun k => utf8_decodeRuneInStringSlow.f k s) (dec s) := by
  have h0 := bt_lo s 0
  have h1 := bt_hi s 0
  have hf := first_at h0 h1
  by_cases cb : bt s 0 ≤ 193 ∨ 245 ≤ bt s 0
  · rw [dec_none (chr_bad (by omega))]
    refine slow_bad hs h0 h1 (hf.trans ?_)
    unfold clsF
    split
    · omega
    · split
      · rfl
      · repeat (split; · omega)
        rfl
  by_cases c2 : bt s 0 ≤ 223
  · have hx : rd tabG4 (bt s 0) = 2 := hf.trans (by unfold clsF; rw [if_neg (by omega), if_neg (by omega), if_pos (by omega)])
    obtain ⟨g1, g2, g3⟩ := rows_of 2 (by omega)
    obtain ⟨a1, a2, a3⟩ := slow_at (n := 2) (lo := 128) (hi := 191) hs h0 h1 hx g1 g2 g3 (by decide +kernel) rfl rfl (by omega)
    have hc := chr_2 (s := s) (by omega) c2
    by_cases k1 : (s.size : Int) < 2
    · rw [dec_none (hc.trans (multi_short (by omega)))]; exact a1 k1
    · by_cases k2 : 128 ≤ bt s 1 ∧ bt s 1 ≤ 191
      · rw [dec_some (p := ((bt s 0 - 192) * 64 + bt s 1 - 128, 2)) (hc.trans ((multi_some (by omega) (conts_1.trans (if_pos k2))).trans (if_neg (by omega))))]
        exact a3 (by omega) k2.1 k2.2 _ (slow_2 (by omega) (by omega) k2.1 k2.2)
      · rw [dec_none (hc.trans (multi_none (conts_1.trans (if_neg k2))))]
        exact a2 (by omega) k2
  by_cases c3 : bt s 0 ≤ 239
  · have hc := chr_3 (s := s) (by omega) c3
    obtain ⟨x, lo, hi, hx, hxr, hsz, hlo, hhi, hrel⟩ : ∃ x lo hi, rd tabG4 (bt s 0) = x ∧ (x = 2 ∨ x = 19 ∨ x = 3 ∨ x = 35 ∨ x = 52 ∨ x = 4 ∨ x = 68) ∧ wrap64 (Go.bits .and .u8 x 7) = 3 ∧
        (rd_T159 tabG5 (x / 16)).f0 = lo ∧ (rd_T159 tabG5 (x / 16)).f1 = hi ∧ (bt s 0 = 224 ∧ lo = 160 ∧ hi = 191 ∨ bt s 0 = 237 ∧ lo = 128 ∧ hi = 159 ∨ bt s 0 ≠ 224 ∧ bt s 0 ≠ 237 ∧ lo = 128 ∧ hi = 191) := by
      by_cases d1 : bt s 0 = 224
      · exact ⟨19, 160, 191, hf.trans (by rw [d1]; rfl), by omega, by decide +kernel, rfl, rfl, by omega⟩
      by_cases d2 : bt s 0 = 237
      · exact ⟨35, 128, 159, hf.trans (by rw [d2]; rfl), by omega, by decide +kernel, rfl, rfl, by omega⟩
      refine ⟨3, 128, 191, hf.trans ?_, by omega, by decide +kernel, rfl, rfl, by omega⟩
      unfold clsF
      rw [if_neg (by omega), if_neg (by omega), if_neg (by omega), if_neg (by omega)]
      by_cases d3 : bt s 0 < 237
      · rw [if_pos d3]
      · rw [if_neg d3, if_neg (by omega), if_pos (by omega)]
    obtain ⟨g1, g2, g3⟩ := rows_of x hxr
    obtain ⟨a1, a2, a3⟩ := slow_at hs h0 h1 hx g1 g2 g3 hsz hlo hhi (by omega)
    by_cases k1 : (s.size : Int) < 3
    · rw [dec_none (hc.trans (multi_short (by omega)))]; exact a1 k1
    by_cases k2 : 128 ≤ bt s 1 ∧ bt s 1 ≤ 191
    · by_cases k3 : 128 ≤ bt s 2 ∧ bt s 2 ≤ 191
      · have hm := multi_some (s := s) (a := bt s 0 - 224) (m := 2048) (n := 2) (by omega) (conts_succ.trans ((if_pos k2).trans (conts_1.trans (if_pos k3))))
        by_cases k4 : lo ≤ bt s 1 ∧ bt s 1 ≤ hi
        · rw [dec_some (p := (((bt s 0 - 224) * 64 + bt s 1 - 128) * 64 + bt s 2 - 128, 3)) (hc.trans (hm.trans (if_neg (by show ¬ (((bt s 0 - 224) * 64 + bt s 1 - 128) * 64 + bt s 2 - 128 < 2048 ∨ ((bt s 0 - 224) * 64 + bt s 1 - 128) * 64 + bt s 2 - 128 > 1114111 ∨ (55296 ≤ ((bt s 0 - 224) * 64 + bt s 1 - 128) * 64 + bt s 2 - 128 ∧ ((bt s 0 - 224) * 64 + bt s 1 - 128) * 64 + bt s 2 - 128 ≤ 57343)); omega))))]
          exact a3 (by omega) k4.1 k4.2 _ ((j0_more (by omega) (by omega)).2 k3.1 k3.2 _ (slow_3 (by omega) (by omega) k2.1 k2.2 k3.1 k3.2))
        · rw [dec_none (hc.trans (hm.trans (if_pos (by show (((bt s 0 - 224) * 64 + bt s 1 - 128) * 64 + bt s 2 - 128 < 2048 ∨ ((bt s 0 - 224) * 64 + bt s 1 - 128) * 64 + bt s 2 - 128 > 1114111 ∨ (55296 ≤ ((bt s 0 - 224) * 64 + bt s 1 - 128) * 64 + bt s 2 - 128 ∧ ((bt s 0 - 224) * 64 + bt s 1 - 128) * 64 + bt s 2 - 128 ≤ 57343)); omega))))]
          exact a2 (by omega) k4
      · rw [dec_none (hc.trans (multi_none (conts_succ.trans ((if_pos k2).trans (conts_1.trans (if_neg k3))))))]
        by_cases k4 : lo ≤ bt s 1 ∧ bt s 1 ≤ hi
        · exact a3 (by omega) k4.1 k4.2 _ ((j0_more (by omega) (by omega)).1 k3)
        · exact a2 (by omega) k4
    · rw [dec_none (hc.trans (multi_none (conts_succ.trans (if_neg k2))))]
      exact a2 (by omega) (by omega)
  · have hc := chr_4 (s := s) (by omega) (by omega)
    obtain ⟨x, lo, hi, hx, hxr, hsz, hlo, hhi, hrel⟩ : ∃ x lo hi, rd tabG4 (bt s 0) = x ∧ (x = 2 ∨ x = 19 ∨ x = 3 ∨ x = 35 ∨ x = 52 ∨ x = 4 ∨ x = 68) ∧ wrap64 (Go.bits .and .u8 x 7) = 4 ∧
        (rd_T159 tabG5 (x / 16)).f0 = lo ∧ (rd_T159 tabG5 (x / 16)).f1 = hi ∧ (bt s 0 = 240 ∧ lo = 144 ∧ hi = 191 ∨ bt s 0 = 244 ∧ lo = 128 ∧ hi = 143 ∨ bt s 0 ≠ 240 ∧ bt s 0 ≠ 244 ∧ lo = 128 ∧ hi = 191) := by
      by_cases d1 : bt s 0 = 240
      · exact ⟨52, 144, 191, hf.trans (by rw [d1]; rfl), by omega, by decide +kernel, rfl, rfl, by omega⟩
      by_cases d2 : bt s 0 = 244
      · exact ⟨68, 128, 143, hf.trans (by rw [d2]; rfl), by omega, by decide +kernel, rfl, rfl, by omega⟩
      refine ⟨4, 128, 191, hf.trans ?_, by omega, by decide +kernel, rfl, rfl, by omega⟩
      unfold clsF
      rw [if_neg (by omega), if_neg (by omega), if_neg (by omega), if_neg (by omega), if_neg (by omega), if_neg (by omega), if_neg (by omega), if_neg (by omega), if_pos (by omega)]
    obtain ⟨g1, g2, g3⟩ := rows_of x hxr
    obtain ⟨a1, a2, a3⟩ := slow_at hs h0 h1 hx g1 g2 g3 hsz hlo hhi (by omega)
    by_cases k1 : (s.size : Int) < 4
    · rw [dec_none (hc.trans (multi_short (by omega)))]; exact a1 k1
    by_cases k2 : 128 ≤ bt s 1 ∧ bt s 1 ≤ 191
    · by_cases k3 : 128 ≤ bt s 2 ∧ bt s 2 ≤ 191
      · by_cases k5 : 128 ≤ bt s 3 ∧ bt s 3 ≤ 191
        · have hm := multi_some (s := s) (a := bt s 0 - 240) (m := 65536) (n := 3) (by omega) (conts_succ.trans ((if_pos k2).trans (conts_succ.trans ((if_pos k3).trans (conts_1.trans (if_pos k5))))))
          by_cases k4 : lo ≤ bt s 1 ∧ bt s 1 ≤ hi
          · rw [dec_some (p := ((((bt s 0 - 240) * 64 + bt s 1 - 128) * 64 + bt s 2 - 128) * 64 + bt s 3 - 128, 4)) (hc.trans (hm.trans (if_neg (by show ¬ ((((bt s 0 - 240) * 64 + bt s 1 - 128) * 64 + bt s 2 - 128) * 64 + bt s 3 - 128 < 65536 ∨ (((bt s 0 - 240) * 64 + bt s 1 - 128) * 64 + bt s 2 - 128) * 64 + bt s 3 - 128 > 1114111 ∨ (55296 ≤ (((bt s 0 - 240) * 64 + bt s 1 - 128) * 64 + bt s 2 - 128) * 64 + bt s 3 - 128 ∧ (((bt s 0 - 240) * 64 + bt s 1 - 128) * 64 + bt s 2 - 128) * 64 + bt s 3 - 128 ≤ 57343)); omega))))]
            exact a3 (by omega) k4.1 k4.2 _ ((j0_more (by omega) (by omega)).2 k3.1 k3.2 _ ((slow_4 (by omega) (by omega) (by omega) k2.1 k2.2 k3.1 k3.2).2 k5.1 k5.2))
          · rw [dec_none (hc.trans (hm.trans (if_pos (by show ((((bt s 0 - 240) * 64 + bt s 1 - 128) * 64 + bt s 2 - 128) * 64 + bt s 3 - 128 < 65536 ∨ (((bt s 0 - 240) * 64 + bt s 1 - 128) * 64 + bt s 2 - 128) * 64 + bt s 3 - 128 > 1114111 ∨ (55296 ≤ (((bt s 0 - 240) * 64 + bt s 1 - 128) * 64 + bt s 2 - 128) * 64 + bt s 3 - 128 ∧ (((bt s 0 - 240) * 64 + bt s 1 - 128) * 64 + bt s 2 - 128) * 64 + bt s 3 - 128 ≤ 57343)); omega))))]
            exact a2 (by omega) k4
        · rw [dec_none (hc.trans (multi_none (conts_succ.trans ((if_pos k2).trans (conts_succ.trans ((if_pos k3).trans (conts_1.trans (if_neg k5))))))))]
          by_cases k4 : lo ≤ bt s 1 ∧ bt s 1 ≤ hi
          · exact a3 (by omega) k4.1 k4.2 _ ((j0_more (by omega) (by omega)).2 k3.1 k3.2 _ ((slow_4 (by omega) (by omega) (by omega) k2.1 k2.2 k3.1 k3.2).1 k5))
          · exact a2 (by omega) k4
      · rw [dec_none (hc.trans (multi_none (conts_succ.trans ((if_pos k2).trans (conts_succ.trans (if_neg k3))))))]
        by_cases k4 : lo ≤ bt s 1 ∧ bt s 1 ≤ hi
        · exact a3 (by omega) k4.1 k4.2 _ ((j0_more (by omega) (by omega)).1 k3)
        · exact a2 (by omega) k4
    · rw [dec_none (hc.trans (multi_none (conts_succ.trans (if_neg k2))))]
      exact a2 (by omega) (by omega)
theorem toList_nil {s : ByteArray} : s.toList = ([] : List UInt8) ↔ s.size = 0 := by
  rw [Go.ByteArray.toList_eq]
  constructor
  · intro h
    have : s.data.toList.length = 0 := by rw [h]; rfl
    simpa using this
  · intro h
    exact List.eq_nil_of_length_eq_zero (by simpa using h)
theorem dec_ev {s : ByteArray} (hs : 0 < s.size) : Ev (fun k => utf8_DecodeRuneInString.f k s) (dec s) := by
  have c0 : ¬ (s.toList = ([] : List UInt8)) := fun h => by rw [toList_nil] at h; omega
  have c1 : 0 < (s.size : Int) := by omega
  have h0 := bt_lo s 0
  by_cases c2 : bt s 0 < 128
  · refine ev_const fun k => ?_
    have hd : dec s = (bt s 0, 1) := dec_some (by unfold chr; rw [if_pos c2])
    rw [hd]
    simp only [utf8_DecodeRuneInString.f, if_neg c0, if_pos c1, if_pos c2, wr32 (show -2147483648 ≤ bt s 0 by omega) (by omega)]
  · refine Ev.congr (f := fun k => (utf8_decodeRuneInStringSlow.f k s).bind fun b => some (b.1, b.2)) (fun k => ?_) (Ev.bind (f := fun _ b => some (b.1, b.2)) (slow_ev hs (by omega)) (ev_const fun _ => rfl))
    simp only [utf8_DecodeRuneInString.f, if_neg c0, if_pos c1, if_neg c2]
/-! the reading at another place of another text -/
theorem chr_congr {s t : ByteArray} {i j : Int} (h : ∀ d : Int, 0 ≤ d → d < 4 → bt s (i + d) = bt t (j + d)) (hz : (s.size : Int) - i = (t.size : Int) - j) : chr s i = chr t j := by
  have b0 := h 0 (by omega) (by omega)
  simp only [Int.add_zero] at b0
  have key : ∀ (m : Nat) (a lo : Int), m ≤ 3 → multi s i a m lo = multi t j a m lo := by
    intro m a lo hm
    have hc : ∀ (k : Nat) (p : Int) (a : Int), p + k ≤ 4 → 0 ≤ p → conts s k (i + p) a = conts t k (j + p) a := by
      intro k
      induction k with
      | zero => intro p a _ _; rfl
      | succ k ih =>
        intro p a hp hp0
        rw [conts_succ, conts_succ, h p hp0 (by omega), Int.add_assoc, Int.add_assoc, ih (p + 1) _ (by omega) (by omega)]
    unfold multi
    rw [hc m 1 a (by omega) (by omega), hz]
  unfold chr
  rw [b0, key 1 _ _ (by omega), key 2 _ _ (by omega), key 3 _ _ (by omega)]
/-- Where a character stands, its bytes alone tell. -/
theorem chr_local {s t : ByteArray} {i j r n : Int} (hi : i < s.size) (h : chr s i = some (r, n)) (hb : ∀ d : Int, 0 ≤ d → d < n → bt t (j + d) = bt s (i + d)) (hz : j + n ≤ t.size) : chr t j = some (r, n) := by
  have hl := chr_len hi h
  have b0 := hb 0 (by omega) (by omega)
  simp only [Int.add_zero] at b0
  have key : ∀ (m : Nat) (a lo : Int), multi s i a m lo = some (r, n) → multi t j a m lo = some (r, n) := by
    intro m a lo hm
    have hl2 := multi_len hm
    have hc : ∀ (k : Nat) (p : Int) (a : Int), p + k ≤ n → 0 ≤ p → conts t k (j + p) a = conts s k (i + p) a := by
      intro k
      induction k with
      | zero => intro p a _ _; rfl
      | succ k ih =>
        intro p a hp hp0
        rw [conts_succ, conts_succ, hb p hp0 (by omega), Int.add_assoc, Int.add_assoc, ih (p + 1) _ (by omega) (by omega)]
    unfold multi at hm ⊢
    rw [if_neg (by omega)] at hm
    rw [if_neg (by omega), hc m 1 a (by omega) (by omega)]
    exact hm
  unfold chr at h ⊢
  rw [b0]
  split at h
  · rename_i c; rw [if_pos c]; exact h
  · rename_i c; rw [if_neg c]
    split at h
    · rename_i c; rw [if_pos c]; exact key _ _ _ h
    · rename_i c; rw [if_neg c]
      split at h
      · rename_i c; rw [if_pos c]; exact key _ _ _ h
      · rename_i c; rw [if_neg c]
        split at h
        · rename_i c; rw [if_pos c]; exact key _ _ _ h
        · cases h
theorem bt_ext {s : ByteArray} {i j d : Int} (h0 : 0 ≤ i) (h1 : i + d < j) (hj : j ≤ s.size) (hd : 0 ≤ d) : bt (s.extract i.toNat j.toNat) d = bt s (i + d) := by
  unfold bt
  have hz : (s.extract i.toNat j.toNat).size = min j.toNat s.size - i.toNat := ByteArray.size_extract
  rw [dif_pos (by rw [hz]; omega), dif_pos (by omega)]
  have : (s.extract i.toNat j.toNat)[d.toNat]'(by rw [hz]; omega) = s[(i + d).toNat]'(by omega) := by
    rw [ByteArray.getElem_extract]
    congr 1
    omega
  rw [this]
theorem size_ext {s : ByteArray} {i j : Int} (h0 : 0 ≤ i) (h1 : i ≤ j) (hj : j ≤ s.size) : ((s.extract i.toNat j.toNat).size : Int) = j - i := by
  have hz : (s.extract i.toNat j.toNat).size = min j.toNat s.size - i.toNat := ByteArray.size_extract
  rw [hz]; omega
theorem chr_tail {s : ByteArray} {i r n : Int} (h0 : 0 ≤ i) (hi : i < s.size) (h : chr s i = some (r, n)) : chr (s.extract i.toNat s.size) 0 = some (r, n) := by
  have hl := chr_len hi h
  have hz := size_ext (s := s) (j := s.size) h0 (by omega) (by omega)
  rw [Int.toNat_natCast] at hz
  refine chr_local hi h (fun d d0 d1 => ?_) (by omega)
  have := bt_ext (s := s) (i := i) (j := s.size) (d := d) h0 (by omega) (by omega) d0
  rw [Int.toNat_natCast] at this
  rw [Int.zero_add]
  exact this
end Go.Proofs.YtfpbbnllaogclaaDoor.J
end

section
namespace Go.Proofs.YtfpbbnllaogclaaDoor.J
open Go.RowKit Go.Proofs.YtfpbbnllaogclaaDoor.PA Go.Proofs.YtfpbbnllaogclaaDoorW.PrintWords Go.Proofs.YtfpbbnllaogclaaDoorW.PrintLast
set_option linter.unusedSimpArgs false
set_option linter.unusedVariables false
/-- These bytes are one character in UTF-8. -/
inductive Ch : List Int → Int → Prop
  | one {a : Int} : 0 ≤ a → a ≤ 127 → Ch [a] a
  | two {a b r : Int} : 194 ≤ a → a ≤ 223 → 128 ≤ b → b ≤ 191 → r = (a - 192) * 64 + b - 128 → Ch [a, b] r
  | three {a b c r : Int} : 224 ≤ a → a ≤ 239 → 128 ≤ b → b ≤ 191 → 128 ≤ c → c ≤ 191 → r = ((a - 224) * 64 + b - 128) * 64 + c - 128 → 2048 ≤ r → ¬ (55296 ≤ r ∧ r ≤ 57343) → Ch [a, b, c] r
  | four {a b c d r : Int} : 240 ≤ a → a ≤ 244 → 128 ≤ b → b ≤ 191 → 128 ≤ c → c ≤ 191 → 128 ≤ d → d ≤ 191 → r = (((a - 240) * 64 + b - 128) * 64 + c - 128) * 64 + d - 128 → 65536 ≤ r → r ≤ 1114111 → Ch [a, b, c, d] r
theorem Ch.len {c : List Int} {r : Int} (h : Ch c r) : 1 ≤ c.length ∧ c.length ≤ 4 := by cases h <;> simp
theorem Ch.ne {c : List Int} {r : Int} (h : Ch c r) : c ≠ [] := by cases h <;> simp
theorem Ch.rune {c : List Int} {r : Int} (h : Ch c r) : 0 ≤ r ∧ r ≤ 1114111 := by cases h <;> omega
/-- The rune tells the bytes. -/
theorem Ch.inj {c c' : List Int} {r : Int} (h : Ch c r) (h' : Ch c' r) : c = c' := by
  cases h <;> cases h' <;> first | omega | rfl | (simp only [List.cons.injEq, and_true]; omega)
/-- Either one byte below 128, or more, all of 128 and above, the first 194 and above, the others below 192. -/
theorem Ch.parts {c : List Int} {r : Int} (h : Ch c r) : (c = [r] ∧ 0 ≤ r ∧ r ≤ 127) ∨ (∃ a t, c = a :: t ∧ 194 ≤ a ∧ a ≤ 244 ∧ t ≠ [] ∧ (∀ x ∈ t, 128 ≤ x ∧ x ≤ 191) ∧ 128 ≤ r) := by
  cases h with
  | one h0 h1 => exact .inl ⟨rfl, h0, h1⟩
  | two => exact .inr ⟨_, _, rfl, by omega, by omega, by simp, by simp; omega, by omega⟩
  | three => exact .inr ⟨_, _, rfl, by omega, by omega, by simp, by simp; omega, by omega⟩
  | four => exact .inr ⟨_, _, rfl, by omega, by omega, by simp, by simp; omega, by omega⟩
theorem Ch.isB {c : List Int} {r : Int} (h : Ch c r) : IsB c := by
  rcases h.parts with ⟨rfl, h0, h1⟩ | ⟨a, t, rfl, h0, h1, _, h2, _⟩
  · intro x hx
    simp only [List.mem_singleton] at hx
    omega
  · intro x hx
    rcases List.mem_cons.1 hx with rfl | hx
    · omega
    · have := h2 x hx; omega
/-- The bytes of a list stand in the text from i on. -/
theorem bt_split {s : ByteArray} {p c q : List Int} (h : bytesOf s = p ++ (c ++ q)) (d : Nat) (hd : d < c.length) : bt s ((p.length : Int) + d) = c.getD d 0 := by
  rw [bt_get, h]
  have e : ((p.length : Int) + d).toNat = p.length + d := by omega
  rw [e, List.getD_eq_getElem?_getD, List.getElem?_append_right (by omega), Nat.add_sub_cancel_left, List.getElem?_append_left hd, ← List.getD_eq_getElem?_getD]
theorem Ch.chr {s : ByteArray} {p c q : List Int} {r : Int} (hc : Ch c r) (h : bytesOf s = p ++ (c ++ q)) : chr s p.length = some (r, (c.length : Int)) := by
  have hz : (s.size : Int) = p.length + c.length + q.length := by
    rw [← bytesOf_length s, h, List.length_append, List.length_append]; omega
  have hb := bt_split h
  cases hc with
  | one h0 h1 =>
    have b0 : bt s p.length = r := by simpa using hb 0 (by simp)
    unfold J.chr
    rw [b0, if_pos (by omega)]
    rfl
  | @two a b r h0 h1 h2 h3 hr =>
    have b0 : bt s p.length = a := by simpa using hb 0 (by simp)
    have b1 : bt s (p.length + 1) = b := by simpa using hb 1 (by simp)
    simp only [List.length_cons, List.length_nil] at hz
    unfold J.chr
    rw [b0, if_neg (by omega), if_pos ⟨h0, h1⟩]
    unfold multi
    rw [if_neg (by omega), conts_1, b1, if_pos ⟨h2, h3⟩, ← hr]
    simp only []
    rw [if_neg (by omega)]
    rfl
  | @three a b c r h0 h1 h2 h3 h4 h5 hr h6 h7 =>
    have b0 : bt s p.length = a := by simpa using hb 0 (by simp)
    have b1 : bt s (p.length + 1) = b := by simpa using hb 1 (by simp)
    have b2 : bt s (p.length + 1 + 1) = c := by rw [Int.add_assoc]; simpa using hb 2 (by simp)
    simp only [List.length_cons, List.length_nil] at hz
    unfold J.chr
    rw [b0, if_neg (by omega), if_neg (by omega), if_pos ⟨h0, h1⟩]
    unfold multi
    rw [if_neg (by omega), conts_succ, b1, if_pos ⟨h2, h3⟩, conts_1, b2, if_pos ⟨h4, h5⟩, ← hr]
    simp only []
    rw [if_neg (by omega)]
    rfl
  | @four a b c d r h0 h1 h2 h3 h4 h5 h6 h7 hr h8 h9 =>
    have b0 : bt s p.length = a := by simpa using hb 0 (by simp)
    have b1 : bt s (p.length + 1) = b := by simpa using hb 1 (by simp)
    have b2 : bt s (p.length + 1 + 1) = c := by rw [Int.add_assoc]; simpa using hb 2 (by simp)
    have b3 : bt s (p.length + 1 + 1 + 1) = d := by rw [Int.add_assoc, Int.add_assoc]; simpa using hb 3 (by simp)
    simp only [List.length_cons, List.length_nil] at hz
    unfold J.chr
    rw [b0, if_neg (by omega), if_neg (by omega), if_neg (by omega), if_pos ⟨h0, h1⟩]
    unfold multi
    rw [if_neg (by omega), conts_succ, b1, if_pos ⟨h2, h3⟩, conts_succ, b2, if_pos ⟨h4, h5⟩, conts_1, b3, if_pos ⟨h6, h7⟩, ← hr]
    simp only []
    rw [if_neg (by omega)]
    rfl
theorem drop_bt {s : ByteArray} {i : Nat} (h : (i : Int) < s.size) : (bytesOf s).drop i = bt s i :: (bytesOf s).drop (i + 1) := by
  have hl : i < (bytesOf s).length := by rw [bytesOf_length]; omega
  rw [List.drop_eq_getElem_cons hl, bt_nat, List.getD_eq_getElem?_getD, List.getElem?_eq_getElem hl]
  rfl
theorem chr_ch {s : ByteArray} {i : Nat} {r n : Int} (hi : (i : Int) < s.size) (h : chr s i = some (r, n)) : ∃ c, Ch c r ∧ (c.length : Int) = n ∧ (bytesOf s).drop i = c ++ (bytesOf s).drop (i + c.length) := by
  have hl := chr_len hi h
  have lo := bt_lo s i
  have d0 := drop_bt hi
  unfold chr at h
  split at h
  · rename_i c1
    simp only [Option.some.injEq, Prod.mk.injEq] at h
    obtain ⟨rfl, rfl⟩ := h
    exact ⟨[bt s i], .one lo (by omega), rfl, d0⟩
  split at h
  · rename_i c1 c2
    have hm := multi_len h
    have d1 := drop_bt (s := s) (i := i + 1) (by omega)
    unfold multi at h
    rw [if_neg (by omega), conts_1] at h
    split at h
    · cases h
    · rename_i x hx
      split at hx
      · rename_i c3
        split at h
        · cases h
        · simp only [Option.some.injEq, Prod.mk.injEq] at h hx
          refine ⟨[bt s i, bt s (i + 1)], .two c2.1 c2.2 c3.1 c3.2 (by rw [← h.1, ← hx]), by rw [← h.2]; rfl, ?_⟩
          rw [d0, d1]; rfl
      · cases hx
  split at h
  · rename_i c1 c2 c3
    have hm := multi_len h
    have d1 := drop_bt (s := s) (i := i + 1) (by omega)
    have d2 := drop_bt (s := s) (i := i + 1 + 1) (by omega)
    unfold multi at h
    rw [if_neg (by omega), conts_succ] at h
    split at h
    · cases h
    · rename_i x hx
      split at hx
      · rename_i c4
        rw [conts_1] at hx
        split at hx
        · rename_i c5
          split at h
          · cases h
          · rename_i c6
            simp only [Option.some.injEq, Prod.mk.injEq] at h hx
            refine ⟨[bt s i, bt s (i + 1), bt s (i + 1 + 1)], .three c3.1 c3.2 c4.1 c4.2 c5.1 c5.2 (by rw [← h.1, ← hx]) (by omega) (by omega), by rw [← h.2]; rfl, ?_⟩
            rw [d0, d1, d2]; rfl
        · cases hx
      · cases hx
  split at h
  · rename_i c1 c2 c3 c4
    have hm := multi_len h
    have d1 := drop_bt (s := s) (i := i + 1) (by omega)
    have d2 := drop_bt (s := s) (i := i + 1 + 1) (by omega)
    have d3 := drop_bt (s := s) (i := i + 1 + 1 + 1) (by omega)
    unfold multi at h
    rw [if_neg (by omega), conts_succ] at h
    split at h
    · cases h
    · rename_i x hx
      split at hx
      · rename_i c5
        rw [conts_succ] at hx
        split at hx
        · rename_i c6
          rw [conts_1] at hx
          split at hx
          · rename_i c7
            split at h
            · cases h
            · rename_i c8
              simp only [Option.some.injEq, Prod.mk.injEq] at h hx
              refine ⟨[bt s i, bt s (i + 1), bt s (i + 1 + 1), bt s (i + 1 + 1 + 1)], .four c4.1 c4.2 c5.1 c5.2 c6.1 c6.2 c7.1 c7.2 (by rw [← h.1, ← hx]) (by omega) (by omega), by rw [← h.2]; rfl, ?_⟩
              rw [d0, d1, d2, d3]; rfl
          · cases hx
        · cases hx
      · cases hx
  · cases h
/-- Bytes that are characters one behind the other. -/
inductive Tx : List Int → List Int → Prop
  | nil : Tx [] []
  | cons {c l rs : List Int} {r : Int} : Ch c r → Tx l rs → Tx (c ++ l) (r :: rs)
theorem Tx.append {a b xs ys : List Int} (h : Tx a xs) (k : Tx b ys) : Tx (a ++ b) (xs ++ ys) := by
  induction h with
  | nil => exact k
  | cons hc _ ih => rw [List.append_assoc]; exact .cons hc ih
theorem Tx.split : ∀ {xs ys l : List Int}, Tx l (xs ++ ys) → ∃ a b, l = a ++ b ∧ Tx a xs ∧ Tx b ys
  | [], ys, l, h => ⟨[], l, rfl, .nil, h⟩
  | x :: xs, ys, l, h => by
    cases h with
    | @cons c l' _ _ hc ht =>
      obtain ⟨a, b, rfl, ha, hb⟩ := Tx.split ht
      exact ⟨c ++ a, b, by rw [List.append_assoc], .cons hc ha, hb⟩
theorem Tx.snoc {xs l : List Int} {x : Int} (h : Tx l (xs ++ [x])) : ∃ a c, l = a ++ c ∧ Tx a xs ∧ Ch c x := by
  obtain ⟨a, b, rfl, ha, hb⟩ := h.split
  cases hb with
  | @cons c l' _ _ hc ht =>
    cases ht
    exact ⟨a, c, by rw [List.append_nil], ha, hc⟩
theorem Tx.isB {l rs : List Int} (h : Tx l rs) : IsB l := by
  induction h with
  | nil => exact isB_nil
  | cons hc _ ih => exact hc.isB.append ih
theorem Tx.len {l rs : List Int} (h : Tx l rs) : rs.length ≤ l.length := by
  induction h with
  | nil => exact Nat.le_refl _
  | cons hc _ ih =>
    have := hc.len
    rw [List.length_append, List.length_cons]; omega
theorem utf_tx {s : ByteArray} {i : Int} (h : Utf s i) (h0 : 0 ≤ i) (h1 : i ≤ s.size) : ∃ rs, Tx ((bytesOf s).drop i.toNat) rs := by
  induction h with
  | done h =>
    refine ⟨[], ?_⟩
    rw [List.drop_eq_nil_of_le (by rw [bytesOf_length]; omega)]
    exact .nil
  | @next i r n hi hc _ ih =>
    have hl := chr_len hi hc
    obtain ⟨k, rfl⟩ : ∃ k : Nat, i = k := ⟨i.toNat, by omega⟩
    obtain ⟨c, hch, hn, hd⟩ := chr_ch hi hc
    obtain ⟨rs, ht⟩ := ih (by omega) (by omega)
    refine ⟨r :: rs, ?_⟩
    rw [Int.toNat_natCast, hd]
    rw [show ((k : Int) + n).toNat = k + c.length by omega] at ht
    exact .cons hch ht
theorem utf_text {s : ByteArray} (h : Utf s 0) : ∃ rs, Tx (bytesOf s) rs := by
  obtain ⟨rs, ht⟩ := utf_tx h (by omega) (by omega)
  exact ⟨rs, by simpa using ht⟩
/-- What is decoded first. -/
theorem dec_ch {s : ByteArray} {c q : List Int} {r : Int} (hc : Ch c r) (h : bytesOf s = c ++ q) : Ev (fun k => utf8_DecodeRuneInString.f k s) (r, (c.length : Int)) := by
  have hl := hc.len
  have hz : s.size = c.length + q.length := by rw [← bytesOf_length s, h, List.length_append]
  have e := hc.chr (p := []) (s := s) (q := q) (by simpa using h)
  have := dec_ev (s := s) (by omega)
  rw [dec_some (show chr s 0 = _ from e)] at this
  exact this
theorem ch_first {s : ByteArray} {c q : List Int} {r : Int} (hc : Ch c r) (h : bytesOf s = c ++ q) : 0 < (s.size : Int) ∧ (bt s 0 ≤ 127 → bt s 0 = r ∧ c = [r]) ∧ (128 ≤ bt s 0 → 128 ≤ r) ∧ (c.length : Int) ≤ s.size := by
  have hl := hc.len
  have hz : s.size = c.length + q.length := by rw [← bytesOf_length s, h, List.length_append]
  have b0 : bt s 0 = c.getD 0 0 := by
    have := bt_split (p := []) (s := s) (c := c) (q := q) (by simpa using h) 0 (by omega)
    simpa using this
  refine ⟨by omega, fun h1 => ?_, fun h1 => ?_, by omega⟩
  · rcases hc.parts with ⟨rfl, h2, h3⟩ | ⟨a, t, rfl, h2, h3, _, _, _⟩
    · exact ⟨by simpa using b0, rfl⟩
    · simp at b0; omega
  · rcases hc.parts with ⟨rfl, h2, h3⟩ | ⟨a, t, rfl, h2, h3, _, _, h4⟩
    · simp at b0; omega
    · exact h4
theorem tail_bytes {s : ByteArray} {c q : List Int} (h : bytesOf s = c ++ q) : bytesOf (s.extract ((c.length : Int)).toNat s.size) = q := by
  rw [bytesOf_extract, Int.toNat_natCast, h, ← bytesOf_length s, h, List.take_length, List.drop_left]
theorem head_bytes {s : ByteArray} {c q : List Int} (h : bytesOf s = c ++ q) {n : Int} (hn : n = c.length) : bytesOf (s.extract 0 n.toNat) = c := by
  rw [bytesOf_extract, hn, Int.toNat_natCast, h, List.take_left, List.drop_zero]
end Go.Proofs.YtfpbbnllaogclaaDoor.J
end

section
namespace Go.Proofs.YtfpbbnllaogclaaDoor.J
open Go.RowKit Go.Proofs.YtfpbbnllaogclaaDoor.PA Go.Proofs.YtfpbbnllaogclaaDoorW.PrintWords Go.Proofs.YtfpbbnllaogclaaDoorW.PrintLast
set_option linter.unusedSimpArgs false
set_option linter.unusedVariables false
theorem start_all : ∀ b : Fin 256, (Go.bits .and .u8 (b.val : Int) 192 != 128) = !(decide (128 ≤ (b.val : Int)) && decide ((b.val : Int) ≤ 191)) := by decide +kernel
theorem start_at {b : Int} (h0 : 0 ≤ b) (h1 : b ≤ 255) : utf8_RuneStart.f b = some (!(decide (128 ≤ b) && decide (b ≤ 191))) := by
  have h := start_all ⟨b.toNat, by omega⟩
  simp only [Int.toNat_of_nonneg h0] at h
  unfold utf8_RuneStart.f
  rw [h]
theorem last_loop {s : ByteArray} {lim i : Int} {R : Int × Int} (hn : s.size ≤ 140737488351232) (hi : 0 ≤ i) (hl : lim ≤ i) (hs : utf8_RuneStart.f (bt s i) = some true)
    (hj : Ev (fun k => utf8_DecodeLastRuneInString.j1 k s s.size i) R) : ∀ (d : Nat), i + d < s.size → (∀ e : Nat, 1 ≤ e → e ≤ d → 128 ≤ bt s (i + e) ∧ bt s (i + e) ≤ 191) → Ev (fun k => utf8_DecodeLastRuneInString.l0 k s s.size (i + d) lim) R
  | 0, hd, _ => by
    have c1 : i ≥ lim := by omega
    have c2 : i < (s.size : Int) := by omega
    refine Ev.step (fun k => ?_) hj
    have e : i + ((0 : Nat) : Int) = i := by omega
    simp only [utf8_DecodeLastRuneInString.l0, e, if_pos c1, if_pos hi, if_pos c2, hs, Option.bind_some, if_true]
  | d + 1, hd, hb => by
    have ih := last_loop hn hi hl hs hj d (by omega) (fun e h0 h1 => hb e h0 (by omega))
    have b := hb (d + 1) (by omega) (by omega)
    have c1 : i + ((d + 1 : Nat) : Int) ≥ lim := by omega
    have c2 : i + ((d + 1 : Nat) : Int) < (s.size : Int) := by omega
    have c3 : 0 ≤ i + ((d + 1 : Nat) : Int) := by omega
    have hs : utf8_RuneStart.f (bt s (i + ((d + 1 : Nat) : Int))) = some false := by
      rw [start_at (by omega) (by omega), decide_eq_true b.1, decide_eq_true b.2]; rfl
    have w : wrap64 (i + ((d + 1 : Nat) : Int) - 1) = i + d := by rw [wr (by omega) (by omega)]; omega
    refine Ev.step (fun k => ?_) ih
    simp only [utf8_DecodeLastRuneInString.l0, if_pos c1, if_pos c3, if_pos c2, hs, Option.bind_some, Bool.false_eq_true, if_false, w]
theorem last_ch {s : ByteArray} {p c : List Int} {r : Int} (hn : s.size ≤ 140737488351232) (hc : Ch c r) (h : bytesOf s = p ++ c) : Ev (fun k => utf8_DecodeLastRuneInString.f k s) (r, (c.length : Int)) := by
  have hl := hc.len
  have hz : s.size = p.length + c.length := by rw [← bytesOf_length s, h, List.length_append]
  have hb := bt_split (p := p) (c := c) (q := []) (s := s) (by simpa using h)
  have c1 : ¬ (s.size : Int) = 0 := by omega
  have w1 : wrap64 ((s.size : Int) - 1) = (s.size : Int) - 1 := wr (by omega) (by omega)
  have c2 : 0 ≤ (s.size : Int) - 1 := by omega
  have c3 : (s.size : Int) - 1 < s.size := by omega
  have b0 := bt_lo s ((s.size : Int) - 1)
  have b1 := bt_hi s ((s.size : Int) - 1)
  have w2 : wrap32 (bt s ((s.size : Int) - 1)) = bt s ((s.size : Int) - 1) := wr32 (by omega) (by omega)
  have bl : bt s ((s.size : Int) - 1) = c.getD (c.length - 1) 0 := by
    have := hb (c.length - 1) (by omega)
    rw [← this]
    congr 1
    omega
  rcases hc.parts with ⟨rfl, h0, h1⟩ | ⟨a, t, rfl, h0, h1, ht, hx, h2⟩
  · have e : bt s ((s.size : Int) - 1) = r := by simpa using bl
    have c4 : r < 128 := by omega
    rw [e] at w2
    refine ev_const fun k => ?_
    simp only [utf8_DecodeLastRuneInString.f, if_neg c1, w1, if_pos c2, if_pos c3, e, w2, if_pos c4]
    rfl
  · have hmem : ∀ d : Nat, 1 ≤ d → d < (a :: t).length → 128 ≤ bt s (p.length + d) ∧ bt s (p.length + d) ≤ 191 := by
      intro d h3 h4
      rw [hb d h4]
      obtain ⟨e, rfl⟩ : ∃ e, d = e + 1 := ⟨d - 1, by omega⟩
      have he : e < t.length := by simpa using h4
      have : (a :: t).getD (e + 1) 0 = t[e] := by simp [List.getD_eq_getElem?_getD, he]
      rw [this]
      exact hx _ (List.getElem_mem he)
    have ht1 : 1 ≤ t.length := by
      cases t with
      | nil => exact absurd rfl ht
      | cons => simp
    have hlen : (a :: t).length = t.length + 1 := rfl
    rw [hlen] at hz hl hmem
    have hlast := hmem t.length ht1 (by omega)
    have el : (p.length : Int) + t.length = (s.size : Int) - 1 := by omega
    rw [el] at hlast
    have c4 : ¬ bt s ((s.size : Int) - 1) < 128 := by omega
    have w3 : wrap64 ((s.size : Int) - 1 - 1) = (p.length : Int) + ((t.length - 1 : Nat) : Int) := by rw [wr (by omega) (by omega)]; omega
    have w4 : wrap64 ((s.size : Int) - 4) = (s.size : Int) - 4 := wr (by omega) (by omega)
    have ba : bt s p.length = a := by
      have := hb 0 (by simp)
      simpa using this
    have hs : utf8_RuneStart.f (bt s p.length) = some true := by
      rw [ba, start_at (by omega) (by omega)]
      have : decide (a ≤ 191) = false := decide_eq_false (by omega)
      rw [this, Bool.and_false]; rfl
    have hj : Ev (fun k => utf8_DecodeLastRuneInString.j1 k s s.size p.length) (r, ((a :: t).length : Int)) := by
      have c5 : ¬ (p.length : Int) < 0 := by omega
      have c6 : 0 ≤ (p.length : Int) := by omega
      have c7 : (p.length : Int) ≤ s.size := by omega
      have c8 : (s.size : Int) ≤ s.size := by omega
      have hex : bytesOf (s.extract ((p.length : Int)).toNat ((s.size : Int)).toNat) = (a :: t) ++ [] := by
        rw [bytesOf_extract, Int.toNat_natCast, Int.toNat_natCast, h, ← bytesOf_length s, h, List.take_length, List.drop_left, List.append_nil]
      have hd := dec_ch hc hex
      have w5 : wrap64 ((p.length : Int) + ((a :: t).length : Int)) = s.size := by rw [wr (by omega) (by omega), hlen]; omega
      refine Ev.step (f := fun k => (utf8_DecodeRuneInString.f k (s.extract ((p.length : Int)).toNat ((s.size : Int)).toNat)).bind fun b => if wrap64 ((p.length : Int) + b.2) = s.size then some (b.1, b.2) else some (65533, 1)) (fun k => ?_)
        (Ev.bind (f := fun _ b => if wrap64 ((p.length : Int) + b.2) = s.size then some (b.1, b.2) else some (65533, 1)) hd (ev_const fun _ => if_pos w5))
      simp only [utf8_DecodeLastRuneInString.j1, if_neg c5, if_pos c6, if_pos c7, if_pos c8]
    have hlim : mx ((s.size : Int) - 4) 0 ≤ p.length := by unfold mx; split <;> omega
    have e := last_loop hn (by omega) hlim hs hj (t.length - 1) (by omega) (fun e h3 h4 => hmem e h3 (by omega))
    refine Ev.congr (fun k => ?_) e
    simp only [utf8_DecodeLastRuneInString.f, if_neg c1, w1, if_pos c2, if_pos c3, w2, if_neg c4, w3, w4]
end Go.Proofs.YtfpbbnllaogclaaDoor.J
end

section
namespace Go.Proofs.YtfpbbnllaogclaaDoor.J
open Go.RowKit Go.Proofs.YtfpbbnllaogclaaDoor.PA Go.Proofs.YtfpbbnllaogclaaDoorW.PrintWords Go.Proofs.YtfpbbnllaogclaaDoorW.PrintLast
set_option linter.unusedSimpArgs false
set_option linter.unusedVariables false
inductive Tm
  | star | one | ch (r : Int)
inductive GM : List Tm → List Int → Prop
  | nil : GM [] []
  | star {ps : List Tm} {pre cs : List Int} : GM ps cs → GM (.star :: ps) (pre ++ cs)
  | one {ps : List Tm} {c : Int} {cs : List Int} : GM ps cs → GM (.one :: ps) (c :: cs)
  | ch {ps : List Tm} {r : Int} {cs : List Int} : GM ps cs → GM (.ch r :: ps) (r :: cs)
theorem gm_nil {cs : List Int} : GM [] cs ↔ cs = [] := ⟨fun h => by cases h; rfl, fun h => h ▸ .nil⟩
theorem gm_star {ps : List Tm} {cs : List Int} : GM (.star :: ps) cs ↔ ∃ a b, cs = a ++ b ∧ GM ps b :=
  ⟨fun h => by cases h with | star h => exact ⟨_, _, rfl, h⟩, fun ⟨a, b, e, h⟩ => e ▸ .star h⟩
theorem gm_one {ps : List Tm} {cs : List Int} : GM (.one :: ps) cs ↔ ∃ c t, cs = c :: t ∧ GM ps t :=
  ⟨fun h => by cases h with | one h => exact ⟨_, _, rfl, h⟩, fun ⟨a, b, e, h⟩ => e ▸ .one h⟩
theorem gm_ch {ps : List Tm} {r : Int} {cs : List Int} : GM (.ch r :: ps) cs ↔ ∃ t, cs = r :: t ∧ GM ps t :=
  ⟨fun h => by cases h with | ch h => exact ⟨_, rfl, h⟩, fun ⟨b, e, h⟩ => e ▸ .ch h⟩
theorem gm_all (cs : List Int) : GM [.star] cs := gm_star.2 ⟨cs, [], by simp, .nil⟩
theorem gm_star_nil {ps : List Tm} : GM (.star :: ps) [] ↔ GM ps [] := by
  rw [gm_star]
  constructor
  · rintro ⟨a, b, e, h⟩
    have := List.append_eq_nil_iff.1 e.symm
    rw [this.2] at h
    exact h
  · exact fun h => ⟨[], [], rfl, h⟩
theorem gm_star_cons {ps : List Tm} {c : Int} {cs : List Int} : GM (.star :: ps) (c :: cs) ↔ GM ps (c :: cs) ∨ GM (.star :: ps) cs := by
  rw [gm_star, gm_star]
  constructor
  · rintro ⟨a, b, e, h⟩
    cases a with
    | nil => exact .inl (by rw [e]; exact h)
    | cons x a =>
      simp only [List.cons_append, List.cons.injEq] at e
      exact .inr ⟨a, b, e.2, h⟩
  · rintro (h | ⟨a, b, e, h⟩)
    · exact ⟨[], _, rfl, h⟩
    · exact ⟨c :: a, b, by rw [e]; rfl, h⟩
theorem gm_append {ps qs : List Tm} {cs : List Int} : GM (ps ++ qs) cs ↔ ∃ a b, cs = a ++ b ∧ GM ps a ∧ GM qs b := by
  constructor
  · intro h
    induction ps generalizing cs with
    | nil => exact ⟨[], cs, rfl, .nil, h⟩
    | cons t ps ih =>
      rw [List.cons_append] at h
      cases h with
      | @star _ pre cs h =>
        obtain ⟨a, b, rfl, h1, h2⟩ := ih h
        exact ⟨pre ++ a, b, by rw [List.append_assoc], .star h1, h2⟩
      | one h =>
        obtain ⟨a, b, rfl, h1, h2⟩ := ih h
        exact ⟨_ :: a, b, rfl, .one h1, h2⟩
      | ch h =>
        obtain ⟨a, b, rfl, h1, h2⟩ := ih h
        exact ⟨_ :: a, b, rfl, .ch h1, h2⟩
  · rintro ⟨a, b, rfl, h1, h2⟩
    induction h1 with
    | nil => exact h2
    | star _ ih => rw [List.append_assoc]; exact .star ih
    | one _ ih => exact .one ih
    | ch _ ih => exact .ch ih
theorem gm_two {ps : List Tm} {cs : List Int} : GM (.star :: .star :: ps) cs ↔ GM (.star :: ps) cs := by
  constructor
  · intro h
    obtain ⟨a, b, rfl, h1⟩ := gm_star.1 h
    obtain ⟨a', b', rfl, h2⟩ := gm_star.1 h1
    exact gm_star.2 ⟨a ++ a', b', by rw [List.append_assoc], h2⟩
  · exact fun h => gm_star.2 ⟨[], cs, rfl, h⟩
theorem gm_snoc_one {ps : List Tm} {cs : List Int} {c : Int} : GM (ps ++ [.one]) (cs ++ [c]) ↔ GM ps cs := by
  rw [gm_append]
  constructor
  · rintro ⟨a, b, e, h1, h2⟩
    obtain ⟨x, t, rfl, h⟩ := gm_one.1 h2
    obtain rfl := gm_nil.1 h
    have := List.append_inj' e rfl
    rw [this.1]; exact h1
  · exact fun h => ⟨cs, [c], rfl, h, .one .nil⟩
theorem gm_snoc_ch {ps : List Tm} {cs : List Int} {c r : Int} : GM (ps ++ [.ch r]) (cs ++ [c]) ↔ r = c ∧ GM ps cs := by
  rw [gm_append]
  constructor
  · rintro ⟨a, b, e, h1, h2⟩
    obtain ⟨t, rfl, h⟩ := gm_ch.1 h2
    obtain rfl := gm_nil.1 h
    have := List.append_inj' e rfl
    simp only [List.cons.injEq, and_true] at this
    rw [this.1]; exact ⟨this.2.symm, h1⟩
  · rintro ⟨rfl, h⟩
    exact ⟨cs, [r], rfl, h, .ch .nil⟩
/-- The bytes of one term of a pattern. -/
inductive Pc : List Int → Tm → Prop
  | star : Pc [42] .star
  | one : Pc [63] .one
  | plain {c : List Int} {r : Int} : Ch c r → r ≠ 42 → r ≠ 63 → r ≠ 92 → Pc c (.ch r)
  | esc {c : List Int} {r : Int} : Ch c r → Pc (92 :: c) (.ch r)
inductive Pt : List Int → List Tm → Prop
  | nil : Pt [] []
  | cons {c l : List Int} {t : Tm} {ts : List Tm} : Pc c t → Pt l ts → Pt (c ++ l) (t :: ts)
theorem ch42 : Ch [42] 42 := .one (by omega) (by omega)
theorem ch63 : Ch [63] 63 := .one (by omega) (by omega)
theorem ch92 : Ch [92] 92 := .one (by omega) (by omega)
theorem Pc.len {c : List Int} {t : Tm} (h : Pc c t) : 1 ≤ c.length ∧ c.length ≤ 5 := by
  cases h with
  | star => simp
  | one => simp
  | plain h => have := h.len; omega
  | esc h => have := h.len; simp; omega
theorem Pt.len {l : List Int} {ts : List Tm} (h : Pt l ts) : ts.length ≤ l.length := by
  induction h with
  | nil => exact Nat.le_refl _
  | cons hc _ ih => have := hc.len; rw [List.length_append, List.length_cons]; omega
theorem Pt.append {a b : List Int} {xs ys : List Tm} (h : Pt a xs) (k : Pt b ys) : Pt (a ++ b) (xs ++ ys) := by
  induction h with
  | nil => exact k
  | cons hc _ ih => rw [List.append_assoc]; exact .cons hc ih
theorem Pt.split : ∀ {xs ys : List Tm} {l : List Int}, Pt l (xs ++ ys) → ∃ a b, l = a ++ b ∧ Pt a xs ∧ Pt b ys
  | [], ys, l, h => ⟨[], l, rfl, .nil, h⟩
  | x :: xs, ys, l, h => by
    cases h with
    | @cons c l' _ _ hc ht =>
      obtain ⟨a, b, rfl, ha, hb⟩ := Pt.split ht
      exact ⟨c ++ a, b, by rw [List.append_assoc], .cons hc ha, hb⟩
theorem Pt.snoc {xs : List Tm} {l : List Int} {x : Tm} (h : Pt l (xs ++ [x])) : ∃ a c, l = a ++ c ∧ Pt a xs ∧ Pc c x := by
  obtain ⟨a, b, rfl, ha, hb⟩ := h.split
  cases hb with
  | @cons c l' _ _ hc ht =>
    cases ht
    exact ⟨a, c, by rw [List.append_nil], ha, hc⟩
theorem Pt.one' {c : List Int} {t : Tm} (h : Pc c t) : Pt c [t] := by
  have := Pt.cons h .nil
  rwa [List.append_nil] at this
/-- The last character of a term's bytes. -/
theorem Pc.last {p : List Int} {t : Tm} (h : Pc p t) : ∃ c r e, Ch c r ∧ p = e ++ c ∧
    (e = [] ∧ (t = .star ∧ r = 42 ∨ t = .one ∧ r = 63 ∨ t = .ch r ∧ r ≠ 42 ∧ r ≠ 63 ∧ r ≠ 92) ∨ e = [92] ∧ t = .ch r) := by
  cases h with
  | star => exact ⟨[42], 42, [], ch42, rfl, .inl ⟨rfl, .inl ⟨rfl, rfl⟩⟩⟩
  | one => exact ⟨[63], 63, [], ch63, rfl, .inl ⟨rfl, .inr (.inl ⟨rfl, rfl⟩)⟩⟩
  | plain h h1 h2 h3 => exact ⟨_, _, [], h, rfl, .inl ⟨rfl, .inr (.inr ⟨rfl, h1, h2, h3⟩)⟩⟩
  | esc h => exact ⟨_, _, [92], h, rfl, .inr ⟨rfl, rfl⟩⟩
theorem Ch.lastByte {c : List Int} {r : Int} (h : Ch c r) (hr : r ≠ 92) : ∃ q y, c = q ++ [y] ∧ y ≠ 92 := by
  cases h with
  | one => exact ⟨[], _, rfl, hr⟩
  | two => exact ⟨[_], _, rfl, by omega⟩
  | three => exact ⟨[_, _], _, rfl, by omega⟩
  | four => exact ⟨[_, _, _], _, rfl, by omega⟩
theorem Ch.of92 {c : List Int} (h : Ch c 92) : c = [92] := h.inj ch92
theorem rep_two (n : Nat) : (92 : Int) :: 92 :: List.replicate (2 * n) 92 = List.replicate (2 * (n + 1)) 92 := by
  rw [show 2 * (n + 1) = 2 * n + 1 + 1 by omega]; rfl
/-- Behind the terms of a pattern stands an even number of backslashes. -/
theorem Pt.tail {l : List Int} {ts : List Tm} (h : Pt l ts) : ∃ n p, l = p ++ List.replicate (2 * n) 92 ∧ (p = [] ∨ ∃ q y, p = q ++ [y] ∧ y ≠ 92) := by
  induction h with
  | nil => exact ⟨0, [], rfl, .inl rfl⟩
  | @cons c l t ts hc _ ih =>
    obtain ⟨n, p, rfl, hp⟩ := ih
    rcases hp with rfl | ⟨q, y, rfl, hy⟩
    · rw [List.nil_append]
      cases hc with
      | star => exact ⟨n, [42], rfl, .inr ⟨[], 42, rfl, by decide⟩⟩
      | one => exact ⟨n, [63], rfl, .inr ⟨[], 63, rfl, by decide⟩⟩
      | plain h h1 h2 h3 => exact ⟨n, c, rfl, .inr (h.lastByte h3)⟩
      | @esc c r h =>
        by_cases hr : r = 92
        · subst hr
          rw [h.of92]
          exact ⟨n + 1, [], by rw [List.nil_append, ← rep_two]; rfl, .inl rfl⟩
        · obtain ⟨q, y, rfl, hy⟩ := h.lastByte hr
          exact ⟨n, _, rfl, .inr ⟨92 :: q, y, rfl, hy⟩⟩
    · exact ⟨n, c ++ (q ++ [y]), by simp, .inr ⟨c ++ q, y, by rw [List.append_assoc], hy⟩⟩
theorem first_star {l : List Int} {ts : List Tm} (h : Pt (42 :: l) ts) : ∃ ts', ts = .star :: ts' ∧ Pt l ts' := by
  obtain ⟨z, hz⟩ : ∃ z, z = 42 :: l := ⟨_, rfl⟩
  rw [← hz] at h
  cases h with
  | nil => cases hz
  | @cons c l' t ts hc ht =>
    cases hc with
    | star =>
      simp only [List.cons_append, List.nil_append, List.cons.injEq, true_and] at hz
      exact ⟨_, rfl, hz ▸ ht⟩
    | one => simp at hz
    | plain h h1 h2 h3 =>
      rcases h.parts with ⟨rfl, _, _⟩ | ⟨a, t, rfl, h4, _⟩
      · simp at hz; exact absurd hz.1 h1
      · simp at hz; omega
    | esc h => simp at hz
theorem and1 {m : Int} (h0 : 0 ≤ m) (h1 : m < 4611686018427387904) : Go.bits .and .i64 m 1 = m % 2 := by
  have := bits_mask .i64 62 (by decide) (fun n h0 h1 => by rw [IntKind.wrap_i64]; omega) 1 (by decide) m h0 (by simpa using h1)
  simpa using this
/-! the matcher's cut of what stands behind the last star -/
theorem back_loop {s x : ByteArray} {q : List Int} {y : Int} {m : Nat} {c : List Int} {r : Int} {R : ByteArray × ByteArray × Bool} (hn : x.size ≤ 140737488351232)
    (hx : bytesOf x = q ++ (y :: (List.replicate m 92 ++ c))) (hy : y ≠ 92)
    (hj : Ev (fun k => match_matchTrimSuffix.j3 k s x false true r (if m % 2 = 1 then (c.length : Int) + 1 else c.length) (decide (m % 2 = 1))) R) :
    ∀ (d : Nat) (i : Int), i = (m : Int) - d → 0 ≤ i → Ev (fun k => match_matchTrimSuffix.l1 k s x false true r c.length false i) R
  | 0, i, hi, h0 => by
    obtain rfl : i = m := by omega
    have hz : x.size = q.length + 1 + m + c.length := by rw [← bytesOf_length x, hx]; simp; omega
    have w : wrap64 (wrap64 (wrap64 ((x.size : Int) - c.length) - m) - 1) = q.length := by
      rw [wr (x := (x.size : Int) - c.length) (by omega) (by omega), wr (x := (x.size : Int) - c.length - m) (by omega) (by omega), wr (by omega) (by omega)]; omega
    have c1 : 0 ≤ (q.length : Int) := by omega
    have c2 : (q.length : Int) < x.size := by omega
    have b : bt x q.length = y := by
      have := bt_split (s := x) (p := q) (c := [y]) (q := List.replicate m 92 ++ c) hx 0 (by simp)
      simpa using this
    have c3 : ¬ y = 92 := hy
    have ha := and1 (m := (m : Int)) (by omega) (by omega)
    refine Ev.step (fun k => ?_) hj
    by_cases hm : m % 2 = 1
    · have e : (m : Int) % 2 = 1 := by omega
      have w2 : wrap64 ((c.length : Int) + 1) = (c.length : Int) + 1 := wr (by omega) (by omega)
      simp only [match_matchTrimSuffix.l1, w, if_pos c1, if_pos c2, b, if_neg c3, ha, if_pos e, w2, if_pos hm, decide_eq_true hm]
    · have e : ¬ (m : Int) % 2 = 1 := by omega
      simp only [match_matchTrimSuffix.l1, w, if_pos c1, if_pos c2, b, if_neg c3, ha, if_neg e, if_neg hm, decide_eq_false hm]
  | d + 1, i, hi, h0 => by
    have ih := back_loop hn hx hy hj d (i + 1) (by omega) (by omega)
    have hz : x.size = q.length + 1 + m + c.length := by rw [← bytesOf_length x, hx]; simp; omega
    obtain ⟨j, hjj⟩ : ∃ j : Nat, (q.length : Int) + 1 + m - i - 1 = (q.length : Int) + 1 + j ∧ j < m := ⟨(m - i - 1).toNat, by omega⟩
    have w : wrap64 (wrap64 (wrap64 ((x.size : Int) - c.length) - i) - 1) = (q.length : Int) + 1 + j := by
      rw [wr (x := (x.size : Int) - c.length) (by omega) (by omega), wr (x := (x.size : Int) - c.length - i) (by omega) (by omega), wr (by omega) (by omega)]; omega
    have c1 : 0 ≤ (q.length : Int) + 1 + j := by omega
    have c2 : (q.length : Int) + 1 + j < x.size := by omega
    have b : bt x ((q.length : Int) + 1 + j) = 92 := by
      have := bt_split (s := x) (p := q ++ [y]) (c := List.replicate m 92) (q := c) (by rw [hx]; simp) j (by simp; omega)
      simp only [List.length_append, List.length_cons, List.length_nil] at this
      rw [show ((q.length + (0 + 1) : Nat) : Int) + (j : Int) = (q.length : Int) + 1 + j by omega] at this
      rw [this]
      simp [List.getD_eq_getElem?_getD, List.getElem?_replicate, hjj.2]
    have w2 : wrap64 (i + 1) = i + 1 := wr (by omega) (by omega)
    refine Ev.step (fun k => ?_) ih
    simp only [match_matchTrimSuffix.l1, w, if_pos c1, if_pos c2, b, if_true, w2]
def Trim (cs : List Int) (ts : List Tm) (R : ByteArray × ByteArray × Bool) : Prop :=
  (R.2.2 = false → ¬ GM (.star :: ts) cs) ∧ (R.2.2 = true → ∃ cs2 l2 ts2 cs3, Tx (bytesOf R.1) cs2 ∧ Pt l2 ts2 ∧ bytesOf R.2.1 = 42 :: l2 ∧ cs = cs2 ++ cs3 ∧ ts2.length ≤ ts.length ∧ (GM (.star :: ts) cs ↔ GM (.star :: ts2) cs2))
theorem trim_here {s x : ByteArray} {cs : List Int} {l : List Int} {ts : List Tm} (hs : Tx (bytesOf s) cs) (hp : Pt l ts) (hx : bytesOf x = 42 :: l) : Trim cs ts (s, x, true) :=
  ⟨fun h => (by cases h), fun _ => ⟨cs, l, ts, [], hs, hp, hx, by simp, Nat.le_refl _, Iff.rfl⟩⟩
theorem tx_empty {s : ByteArray} (h : Tx (bytesOf s) []) : s.size = 0 := by
  rw [← bytesOf_length s]
  generalize bytesOf s = z at h
  cases h
  rfl
theorem trim_ev : ∀ (n : Nat) (cs : List Int) (ts : List Tm) (s x : ByteArray) (l : List Int), cs.length = n → s.size ≤ 140737488351232 → x.size ≤ 140737488351232 → Tx (bytesOf s) cs → Pt l ts → bytesOf x = 42 :: l →
    ∃ R, Ev (fun k => match_matchTrimSuffix.l0 k s x false true) R ∧ Trim cs ts R ∧ R.1.size ≤ s.size ∧ R.2.1.size ≤ x.size := by
  intro n
  induction n with
  | zero =>
    intro cs ts s x l hc hns hnx hs hp hx
    obtain rfl := List.eq_nil_of_length_eq_zero hc
    have hz := tx_empty hs
    have c1 : ¬ (s.size : Int) > 0 := by omega
    have e : Ev (fun k => match_matchTrimSuffix.j1 k s x false true false) (s, x, true) := ev_one fun k => by simp only [match_matchTrimSuffix.j1, Bool.false_eq_true, if_false]
    exact ⟨_, Ev.step (fun k => by simp only [match_matchTrimSuffix.l0, if_neg c1]) e, trim_here hs hp hx, Nat.le_refl _, Nat.le_refl _⟩
  | succ n ih =>
    intro cs ts s x l hc hns hnx hs hp hx
    obtain ⟨cs', sc, rfl⟩ : ∃ cs' sc, cs = cs' ++ [sc] := by
      rcases List.eq_nil_or_concat cs with rfl | ⟨a, b, rfl⟩
      · simp at hc
      · exact ⟨a, b, by simp⟩
    obtain ⟨sa, sd, hsb, hsa, hsd⟩ := hs.snoc
    have hdl := hsd.len
    have hsz : s.size = sa.length + sd.length := by rw [← bytesOf_length s, hsb, List.length_append]
    have hxz : x.size = l.length + 1 := by rw [← bytesOf_length x, hx, List.length_cons]
    have c1 : (s.size : Int) > 0 := by omega
    rcases List.eq_nil_or_concat ts with rfl | ⟨ts', t, hts⟩
    · have : l = [] := by
        generalize l = z at hp
        cases hp; rfl
      subst this
      have c2 : ¬ (x.size : Int) > 1 := by simp at hxz; omega
      have e : Ev (fun k => match_matchTrimSuffix.j1 k s x false true false) (s, x, true) := ev_one fun k => by simp only [match_matchTrimSuffix.j1, Bool.false_eq_true, if_false]
      exact ⟨_, Ev.step (fun k => by simp only [match_matchTrimSuffix.l0, if_pos c1, decide_eq_false c2]) e, trim_here hs hp hx, Nat.le_refl _, Nat.le_refl _⟩
    · have hts : ts = ts' ++ [t] := by rw [hts]; simp
      subst hts
      obtain ⟨pl, pb, rfl, hpl, hpb⟩ := hp.snoc
      obtain ⟨c, r, e, hch, rfl, hk⟩ := hpb.last
      have hcl := hch.len
      have hpl0 : Pt (42 :: pl) (.star :: ts') := .cons .star hpl
      obtain ⟨m, p, hm, hpp⟩ := hpl0.tail
      obtain ⟨q, y, rfl, hy⟩ : ∃ q y, p = q ++ [y] ∧ y ≠ 92 := by
        rcases hpp with rfl | h
        · cases m with
          | zero => simp at hm
          | succ m => rw [List.nil_append, ← rep_two] at hm; simp at hm
        · exact h
      have hxz2 : x.size = pl.length + e.length + c.length + 1 := by rw [hxz]; simp; omega
      have c2 : (x.size : Int) > 1 := by omega
      have hlastx : Ev (fun k => utf8_DecodeLastRuneInString.f k x) (r, (c.length : Int)) := last_ch (p := 42 :: (pl ++ e)) hnx hch (by rw [hx]; simp)
      have hlasts : Ev (fun k => utf8_DecodeLastRuneInString.f k s) (sc, (sd.length : Int)) := last_ch (p := sa) hns hsd hsb
      -- what is put off
      have hx2 : bytesOf (x.extract 0 ((x.size : Int) - ((e ++ c).length : Int)).toNat) = 42 :: pl := by
        refine head_bytes (c := 42 :: pl) (q := e ++ c) (by rw [hx]; simp) ?_
        rw [List.length_append, List.length_cons]; omega
      have hs2 : bytesOf (s.extract 0 ((s.size : Int) - (sd.length : Int)).toNat) = sa := head_bytes (c := sa) (q := sd) hsb (by omega)
      have hs2z : (s.extract 0 ((s.size : Int) - (sd.length : Int)).toNat).size ≤ 140737488351232 := by rw [← bytesOf_length, hs2]; omega
      have hx2z : (x.extract 0 ((x.size : Int) - ((e ++ c).length : Int)).toNat).size ≤ 140737488351232 := by rw [← bytesOf_length, hx2, List.length_cons]; omega
      obtain ⟨R', hR', hT', hS', hX'⟩ := ih cs' ts' _ _ pl (by simpa using hc) hs2z hx2z (by rw [hs2]; exact hsa) hpl hx2
      have hS2 : R'.1.size ≤ s.size := by
        have := hS'
        rw [ByteArray.size_extract] at this
        omega
      have hX2 : R'.2.1.size ≤ x.size := by
        have := hX'
        rw [ByteArray.size_extract] at this
        omega
      have reach : ∀ (b : Bool) (R : ByteArray × ByteArray × Bool), (e = [] ∧ b = false ∨ e = [92] ∧ b = true) → Ev (fun k => match_matchTrimSuffix.j3 k s x false true r ((e ++ c).length : Int) b) R → Ev (fun k => match_matchTrimSuffix.l0 k s x false true) R := by
        intro b R hb hj
        have hl1 : Ev (fun k => match_matchTrimSuffix.l1 k s x false true r c.length false 0) R := by
          rcases hb with ⟨rfl, rfl⟩ | ⟨rfl, rfl⟩
          · refine back_loop (q := q) (y := y) (m := 2 * m) hnx (by rw [hx, List.nil_append, ← List.cons_append, hm]; simp) hy ?_ (2 * m) 0 (by omega) (by omega)
            have e1 : ¬ 2 * m % 2 = 1 := by omega
            rw [if_neg e1]
            simpa only [decide_eq_false e1, List.nil_append] using hj
          · refine back_loop (q := q) (y := y) (m := 2 * m + 1) hnx ?_ hy ?_ (2 * m + 1) 0 (by omega) (by omega)
            · rw [hx, ← List.cons_append, hm, List.replicate_succ']; simp
            have e1 : (2 * m + 1) % 2 = 1 := by omega
            rw [if_pos e1]
            have e2 : (([92] ++ c).length : Int) = (c.length : Int) + 1 := by simp
            rw [e2] at hj
            simpa only [decide_eq_true e1] using hj
        have hj1 : Ev (fun k => match_matchTrimSuffix.j1 k s x false true true) R := by
          refine Ev.step (f := fun k => (utf8_DecodeLastRuneInString.f k x).bind fun b => match_matchTrimSuffix.l1 k s x false true b.1 b.2 false 0) (fun k => ?_) (Ev.bind (f := fun k b => match_matchTrimSuffix.l1 k s x false true b.1 b.2 false 0) hlastx hl1)
          simp only [match_matchTrimSuffix.j1, if_true]
        exact Ev.step (fun k => by simp only [match_matchTrimSuffix.l0, if_pos c1, decide_eq_true c2]) hj1
      have w1 : wrap64 ((s.size : Int) - (sd.length : Int)) = (s.size : Int) - (sd.length : Int) := wr (by omega) (by omega)
      have w2 : wrap64 ((x.size : Int) - ((e ++ c).length : Int)) = (x.size : Int) - ((e ++ c).length : Int) := by rw [List.length_append]; exact wr (by omega) (by omega)
      have q1 : 0 ≤ (s.size : Int) - (sd.length : Int) := by omega
      have q2 : (s.size : Int) - (sd.length : Int) ≤ s.size := by omega
      have q3 : 0 ≤ (x.size : Int) - ((e ++ c).length : Int) := by rw [List.length_append]; omega
      have q4 : (x.size : Int) - ((e ++ c).length : Int) ≤ x.size := by rw [List.length_append]; omega
      have cut : ∀ (b : Bool) (R : ByteArray × ByteArray × Bool), ((r = 63 ∧ b = false ∨ r = sc) → Ev (fun k => match_matchTrimSuffix.l0 k (s.extract 0 ((s.size : Int) - (sd.length : Int)).toNat) (x.extract 0 ((x.size : Int) - ((e ++ c).length : Int)).toNat) false true) R) →
          (¬ (r = 63 ∧ b = false ∨ r = sc) → R = (s, x, false)) → Ev (fun k => match_matchTrimSuffix.j4 k s x false true r ((e ++ c).length : Int) b false) R := by
        intro b R h1 h2
        refine Ev.step (f := fun k => (utf8_DecodeLastRuneInString.f k s).bind fun d => if r = 63 then (if b = true then (if r = d.1 then (if 0 ≤ (wrap64 ((s.size : Int) - d.2)) then (if (wrap64 ((s.size : Int) - d.2)) ≤ (s.size : Int) then (if 0 ≤ (wrap64 ((x.size : Int) - ((e ++ c).length : Int))) then (if (wrap64 ((x.size : Int) - ((e ++ c).length : Int))) ≤ (x.size : Int) then (match_matchTrimSuffix.l0 k (s.extract 0 ((wrap64 ((s.size : Int) - d.2)) : Int).toNat) (x.extract 0 ((wrap64 ((x.size : Int) - ((e ++ c).length : Int))) : Int).toNat) false true) else (none)) else (none)) else (none)) else (none)) else (some (s, x, false))) else (if 0 ≤ (wrap64 ((s.size : Int) - d.2)) then (if (wrap64 ((s.size : Int) - d.2)) ≤ (s.size : Int) then (if 0 ≤ (wrap64 ((x.size : Int) - ((e ++ c).length : Int))) then (if (wrap64 ((x.size : Int) - ((e ++ c).length : Int))) ≤ (x.size : Int) then (match_matchTrimSuffix.l0 k (s.extract 0 ((wrap64 ((s.size : Int) - d.2)) : Int).toNat) (x.extract 0 ((wrap64 ((x.size : Int) - ((e ++ c).length : Int))) : Int).toNat) false true) else (none)) else (none)) else (none)) else (none))) else (if r = d.1 then (if 0 ≤ (wrap64 ((s.size : Int) - d.2)) then (if (wrap64 ((s.size : Int) - d.2)) ≤ (s.size : Int) then (if 0 ≤ (wrap64 ((x.size : Int) - ((e ++ c).length : Int))) then (if (wrap64 ((x.size : Int) - ((e ++ c).length : Int))) ≤ (x.size : Int) then (match_matchTrimSuffix.l0 k (s.extract 0 ((wrap64 ((s.size : Int) - d.2)) : Int).toNat) (x.extract 0 ((wrap64 ((x.size : Int) - ((e ++ c).length : Int))) : Int).toNat) false true) else (none)) else (none)) else (none)) else (none)) else (some (s, x, false))))
          (fun k => by simp only [match_matchTrimSuffix.j4, Bool.false_eq_true, if_false])
          (Ev.bind (f := fun k d => if r = 63 then (if b = true then (if r = d.1 then (if 0 ≤ (wrap64 ((s.size : Int) - d.2)) then (if (wrap64 ((s.size : Int) - d.2)) ≤ (s.size : Int) then (if 0 ≤ (wrap64 ((x.size : Int) - ((e ++ c).length : Int))) then (if (wrap64 ((x.size : Int) - ((e ++ c).length : Int))) ≤ (x.size : Int) then (match_matchTrimSuffix.l0 k (s.extract 0 ((wrap64 ((s.size : Int) - d.2)) : Int).toNat) (x.extract 0 ((wrap64 ((x.size : Int) - ((e ++ c).length : Int))) : Int).toNat) false true) else (none)) else (none)) else (none)) else (none)) else (some (s, x, false))) else (if 0 ≤ (wrap64 ((s.size : Int) - d.2)) then (if (wrap64 ((s.size : Int) - d.2)) ≤ (s.size : Int) then (if 0 ≤ (wrap64 ((x.size : Int) - ((e ++ c).length : Int))) then (if (wrap64 ((x.size : Int) - ((e ++ c).length : Int))) ≤ (x.size : Int) then (match_matchTrimSuffix.l0 k (s.extract 0 ((wrap64 ((s.size : Int) - d.2)) : Int).toNat) (x.extract 0 ((wrap64 ((x.size : Int) - ((e ++ c).length : Int))) : Int).toNat) false true) else (none)) else (none)) else (none)) else (none))) else (if r = d.1 then (if 0 ≤ (wrap64 ((s.size : Int) - d.2)) then (if (wrap64 ((s.size : Int) - d.2)) ≤ (s.size : Int) then (if 0 ≤ (wrap64 ((x.size : Int) - ((e ++ c).length : Int))) then (if (wrap64 ((x.size : Int) - ((e ++ c).length : Int))) ≤ (x.size : Int) then (match_matchTrimSuffix.l0 k (s.extract 0 ((wrap64 ((s.size : Int) - d.2)) : Int).toNat) (x.extract 0 ((wrap64 ((x.size : Int) - ((e ++ c).length : Int))) : Int).toNat) false true) else (none)) else (none)) else (none)) else (none)) else (some (s, x, false)))) hlasts ?_)
        simp only [w1, w2, if_pos q1, if_pos q2, if_pos q3, if_pos q4]
        by_cases k1 : r = 63
        · by_cases k2 : b = true
          · by_cases k3 : r = sc
            · simpa only [if_pos k1, if_pos k2, if_pos k3] using h1 (.inr k3)
            · have : R = (s, x, false) := h2 (by rintro (⟨_, h⟩ | h); · rw [k2] at h; cases h
                                                 · exact k3 h)
              rw [this]
              simp only [if_pos k1, if_pos k2, if_neg k3]
              exact Ev.now _
          · have k2' : b = false := by simpa using k2
            simpa only [if_pos k1, if_neg k2] using h1 (.inl ⟨k1, k2'⟩)
        · by_cases k3 : r = sc
          · simpa only [if_neg k1, if_pos k3] using h1 (.inr k3)
          · have : R = (s, x, false) := h2 (by rintro (⟨h, _⟩ | h); · exact k1 h
                                               · exact k3 h)
            rw [this]
            simp only [if_neg k1, if_neg k3]
            exact Ev.now _
      have j3 : ∀ (b : Bool) (R : ByteArray × ByteArray × Bool), ¬ (r = 42 ∧ b = false) → Ev (fun k => match_matchTrimSuffix.j4 k s x false true r ((e ++ c).length : Int) b false) R → Ev (fun k => match_matchTrimSuffix.j3 k s x false true r ((e ++ c).length : Int) b) R := by
        intro b R h1 h2
        refine Ev.step (fun k => ?_) h2
        by_cases k1 : r = 42
        · have : b = true := by
            cases b with
            | true => rfl
            | false => exact absurd ⟨k1, rfl⟩ h1
          subst this
          simp only [match_matchTrimSuffix.j3, if_pos k1, Bool.not_true]
        · simp only [match_matchTrimSuffix.j3, if_neg k1]
      have same : ∀ (P : Prop), (GM (.star :: (ts' ++ [t])) (cs' ++ [sc]) ↔ GM (.star :: ts') cs') → Trim (cs' ++ [sc]) (ts' ++ [t]) R' := by
        intro _ hiff
        refine ⟨fun h => fun hg => hT'.1 h (hiff.1 hg), fun h => ?_⟩
        obtain ⟨cs2, l2, ts2, cs3, g1, g2, g3, rfl, g5, g6⟩ := hT'.2 h
        exact ⟨cs2, l2, ts2, cs3 ++ [sc], g1, g2, g3, by simp, by simp; omega, hiff.trans g6⟩
      rcases hk with ⟨he, hk⟩ | ⟨he, ht⟩
      · rcases hk with ⟨rfl, rfl⟩ | ⟨rfl, rfl⟩ | ⟨rfl, h1, h2, h3⟩
        · -- a star
          refine ⟨(s, x, true), reach false _ (.inl ⟨he, rfl⟩) ?_, trim_here hs hp hx, Nat.le_refl _, Nat.le_refl _⟩
          have e4 : Ev (fun k => match_matchTrimSuffix.j4 k s x false true 42 ((e ++ c).length : Int) false true) (s, x, true) := ev_one fun k => by simp only [match_matchTrimSuffix.j4, if_true]
          exact Ev.step (fun k => by simp only [match_matchTrimSuffix.j3, if_true, Bool.not_false]) e4
        · -- a question mark
          refine ⟨R', reach false _ (.inl ⟨he, rfl⟩) (j3 false _ (by omega) (cut false _ (fun _ => hR') (fun h => absurd (.inl ⟨rfl, rfl⟩) h))), same True ?_, hS2, hX2⟩
          rw [← List.cons_append]; exact gm_snoc_one
        · by_cases k3 : r = sc
          · refine ⟨R', reach false _ (.inl ⟨he, rfl⟩) (j3 false _ (by omega) (cut false _ (fun _ => hR') (fun h => absurd (.inr k3) h))), same True ?_, hS2, hX2⟩
            rw [← List.cons_append, gm_snoc_ch]
            exact ⟨fun h => h.2, fun h => ⟨k3, h⟩⟩
          · refine ⟨(s, x, false), reach false _ (.inl ⟨he, rfl⟩) (j3 false _ (by omega) (cut false _ (fun h => ?_) (fun _ => rfl))), ⟨fun _ hg => ?_, fun h => by cases h⟩, Nat.le_refl _, Nat.le_refl _⟩
            · rcases h with h | h
              · exact absurd h.1 h2
              · exact absurd h k3
            · rw [← List.cons_append, gm_snoc_ch] at hg
              exact k3 hg.1
      · subst ht
        by_cases k3 : r = sc
        · refine ⟨R', reach true _ (.inr ⟨he, rfl⟩) (j3 true _ (by simp) (cut true _ (fun _ => hR') (fun h => absurd (.inr k3) h))), same True ?_, hS2, hX2⟩
          rw [← List.cons_append, gm_snoc_ch]
          exact ⟨fun h => h.2, fun h => ⟨k3, h⟩⟩
        · refine ⟨(s, x, false), reach true _ (.inr ⟨he, rfl⟩) (j3 true _ (by simp) (cut true _ (fun h => ?_) (fun _ => rfl))), ⟨fun _ hg => ?_, fun h => by cases h⟩, Nat.le_refl _, Nat.le_refl _⟩
          · rcases h with h | h
            · exact absurd h.2 (by simp)
            · exact absurd h k3
          · rw [← List.cons_append, gm_snoc_ch] at hg
            exact k3 hg.1
end Go.Proofs.YtfpbbnllaogclaaDoor.J
end

section
namespace Go.Proofs.YtfpbbnllaogclaaDoor.J
open Go.RowKit Go.Proofs.YtfpbbnllaogclaaDoor.PA Go.Proofs.YtfpbbnllaogclaaDoorW.PrintWords Go.Proofs.YtfpbbnllaogclaaDoorW.PrintLast
set_option linter.unusedSimpArgs false
set_option linter.unusedVariables false
theorem tx_cons {s : ByteArray} {c : Int} {cs : List Int} (h : Tx (bytesOf s) (c :: cs)) : ∃ d q, bytesOf s = d ++ q ∧ Ch d c ∧ Tx q cs := by
  generalize bytesOf s = z at h ⊢
  cases h with
  | @cons d q _ _ hc ht => exact ⟨d, q, rfl, hc, ht⟩
/-- The pattern's first character is read. -/
theorem head_pat {s x : ByteArray} {c q : List Int} {r : Int} {R : Int} (hc : Ch c r) (h : bytesOf x = c ++ q)
    (hj : Ev (fun k => match_match.j1 k s x 0 () (-1) false false r c.length) R) : Ev (fun k => match_match.l0 k s x 0 () (-1) false) R := by
  obtain ⟨hz, h1, h2, h3⟩ := ch_first hc h
  have b0 := bt_lo x 0
  have b1 := bt_hi x 0
  have w : wrap32 (bt x 0) = bt x 0 := wr32 (by omega) (by omega)
  have c1 : (x.size : Int) > 0 := by omega
  by_cases k1 : bt x 0 > 127
  · refine Ev.step (f := fun k => (utf8_DecodeRuneInString.f k x).bind fun b => match_match.j1 k s x 0 () (-1) false false b.1 b.2) (fun k => ?_) (Ev.bind (f := fun k b => match_match.j1 k s x 0 () (-1) false false b.1 b.2) (dec_ch hc h) hj)
    simp only [match_match.l0, if_pos c1, if_pos hz, w, if_pos k1]
  · obtain ⟨e1, e2⟩ := h1 (by omega)
    subst e2
    refine Ev.step (fun k => ?_) hj
    simp only [match_match.l0, if_pos c1, if_pos hz, w, if_neg k1]
    rw [e1]; rfl
/-- The text's first character is read. -/
theorem head_text {s x : ByteArray} {d q : List Int} {sc pc ps : Int} {R : Int} (hd : Ch d sc) (h : bytesOf s = d ++ q)
    (hj : Ev (fun k => match_match.j2 k s x 0 () (-1) false false pc ps sc d.length) R) : Ev (fun k => match_match.j1 k s x 0 () (-1) false false pc ps) R := by
  obtain ⟨hz, h1, h2, h3⟩ := ch_first hd h
  have b0 := bt_lo s 0
  have b1 := bt_hi s 0
  have w : wrap32 (bt s 0) = bt s 0 := wr32 (by omega) (by omega)
  have c1 : (s.size : Int) > 0 := by omega
  by_cases k1 : bt s 0 > 127
  · refine Ev.step (f := fun k => (utf8_DecodeRuneInString.f k s).bind fun b => match_match.j2 k s x 0 () (-1) false false pc ps b.1 b.2) (fun k => ?_) (Ev.bind (f := fun k b => match_match.j2 k s x 0 () (-1) false false pc ps b.1 b.2) (dec_ch hd h) hj)
    simp only [match_match.j1, if_pos c1, if_pos hz, w, if_pos k1]
  · obtain ⟨e1, e2⟩ := h1 (by omega)
    subst e2
    refine Ev.step (fun k => ?_) hj
    simp only [match_match.j1, if_pos c1, if_pos hz, w, if_neg k1]
    rw [e1]; rfl
theorem no_text {s x : ByteArray} {pc ps : Int} {R : Int} (h : s.size = 0) (hj : Ev (fun k => match_match.j2 k s x 0 () (-1) false false pc ps 0 0) R) : Ev (fun k => match_match.j1 k s x 0 () (-1) false false pc ps) R := by
  have c1 : ¬ (s.size : Int) > 0 := by omega
  refine Ev.step (fun k => ?_) hj
  simp only [match_match.j1, if_neg c1]
theorem j6_ev {s x : ByteArray} {d c q : List Int} {sc pc : Int} {b : Bool} (hd : (d.length : Int) ≤ s.size) (hx : (c.length : Int) ≤ x.size)
    (he : sc = pc → Ev (fun k => match_match.l0 k (s.extract ((d.length : Int)).toNat s.size) (x.extract ((c.length : Int)).toNat x.size) 0 () (-1) false) (if b = true then 1 else 0)) (hn : sc ≠ pc → b = false) :
    Ev (fun k => match_match.j5 k s x 0 () (-1) false false pc c.length sc d.length) (if b = true then 1 else 0) := by
  have q1 : 0 ≤ (d.length : Int) := by omega
  have q2 : 0 ≤ (c.length : Int) := by omega
  have h6 : Ev (fun k => match_match.j6 k s x 0 () (-1) false false pc c.length sc d.length) (if b = true then 1 else 0) := by
    by_cases k1 : sc = pc
    · refine Ev.step (fun k => ?_) (he k1)
      simp only [match_match.j6, if_pos k1, if_pos q1, if_pos hd, Bool.false_eq_true, if_false, if_pos q2, if_pos hx]
    · rw [hn k1]
      refine ev_one fun k => ?_
      simp only [match_match.j6, if_neg k1, Bool.false_eq_true, if_false]
  exact Ev.step (fun k => by simp only [match_match.j5, Bool.false_eq_true, if_false]) h6
/-- Stars one behind the other. -/
theorem skip_stars {s : ByteArray} {n : Int} : ∀ (ts : List Tm) (l : List Int) (x : ByteArray), Pt l ts → bytesOf x = 42 :: l →
    ∃ ts2 l2 y, Pt l2 ts2 ∧ bytesOf y = 42 :: l2 ∧ ts2.length ≤ ts.length ∧ y.size ≤ x.size ∧ (∀ cs, GM (.star :: ts) cs ↔ GM (.star :: ts2) cs) ∧
      ∀ R, Ev (fun k => match_match.j4 k s y 0 () (-1) false n) R → Ev (fun k => match_match.l1 k s x 0 () (-1) false n) R := by
  intro ts
  induction ts with
  | nil =>
    intro l x hp hx
    refine ⟨[], l, x, hp, hx, Nat.le_refl _, Nat.le_refl _, fun _ => Iff.rfl, fun R h => ?_⟩
    have : l = [] := by
      generalize l = z at hp
      cases hp; rfl
    subst this
    have hz : x.size = 1 := by rw [← bytesOf_length x, hx]; rfl
    have c1 : ¬ (x.size : Int) > 1 := by omega
    exact Ev.step (fun k => by simp only [match_match.l1, if_neg c1]) h
  | cons t ts ih =>
    intro l x hp hx
    have hz : x.size = l.length + 1 := by rw [← bytesOf_length x, hx, List.length_cons]
    have hl := hp.len
    rw [List.length_cons] at hl
    have c1 : (x.size : Int) > 1 := by omega
    have c2 : 1 < (x.size : Int) := c1
    obtain ⟨a, l', rfl⟩ : ∃ a l', l = a :: l' := by
      cases l with
      | nil => simp at hl
      | cons a l' => exact ⟨a, l', rfl⟩
    have hb : bt x 1 = a := by
      have := bt_split (s := x) (p := [42]) (c := [a]) (q := l') hx 0 (by simp)
      simpa using this
    by_cases k1 : a = 42
    · subst k1
      obtain ⟨ts', he, hp'⟩ := first_star hp
      simp only [List.cons.injEq] at he
      obtain ⟨rfl, rfl⟩ := he
      have hx' : bytesOf (x.extract 1 x.size) = 42 :: l' := by
        have := tail_bytes (s := x) (c := [42]) (q := 42 :: l') hx
        simpa using this
      have hxz : (x.extract 1 x.size).size ≤ x.size := by rw [ByteArray.size_extract]; omega
      obtain ⟨ts2, l2, y, g1, g2, g3, g4, g5, g6⟩ := ih l' _ hp' hx'
      refine ⟨ts2, l2, y, g1, g2, by simp; omega, by omega, fun cs => gm_two.trans (g5 cs), fun R h => ?_⟩
      have c3 : 1 ≤ (x.size : Int) := by omega
      exact Ev.step (fun k => by simp only [match_match.l1, if_pos c1, if_pos c2, hb, if_true, if_pos c3]) (g6 R h)
    · refine ⟨t :: ts, a :: l', x, hp, hx, Nat.le_refl _, Nat.le_refl _, fun _ => Iff.rfl, fun R h => ?_⟩
      exact Ev.step (fun k => by simp only [match_match.l1, if_pos c1, if_pos c2, hb, if_neg k1]) h
theorem ite_one {b : Bool} : ((if b = true then (1 : Int) else 0) = 0 ↔ b = false) := by cases b <;> simp
theorem match_ev : ∀ (N : Nat) (cs : List Int) (ts : List Tm) (s x : ByteArray), cs.length + ts.length ≤ N → s.size ≤ 140737488351232 → x.size ≤ 140737488351232 → Tx (bytesOf s) cs → Pt (bytesOf x) ts →
    ∃ b : Bool, Ev (fun k => match_match.l0 k s x 0 () (-1) false) (if b = true then 1 else 0) ∧ (b = true ↔ GM ts cs) := by
  intro N
  induction N with
  | zero =>
    intro cs ts s x hN hsn hxn hs hp
    obtain rfl := List.eq_nil_of_length_eq_zero (show ts.length = 0 by omega)
    obtain rfl := List.eq_nil_of_length_eq_zero (show cs.length = 0 by omega)
    have hz := tx_empty hs
    have hxz : x.size = 0 := by
      rw [← bytesOf_length x]
      generalize bytesOf x = z at hp
      cases hp; rfl
    have c1 : ¬ (x.size : Int) > 0 := by omega
    have c2 : (s.size : Int) = 0 := by omega
    exact ⟨true, ev_one fun k => by simp only [match_match.l0, if_neg c1, if_pos c2, if_true], by simp [gm_nil]⟩
  | succ N ih =>
    intro cs ts s x hN hsn hxn hs hp
    cases ts with
    | nil =>
      have hxz : x.size = 0 := by
        rw [← bytesOf_length x]
        generalize bytesOf x = z at hp
        cases hp; rfl
      have c1 : ¬ (x.size : Int) > 0 := by omega
      cases cs with
      | nil =>
        have hz := tx_empty hs
        have c2 : (s.size : Int) = 0 := by omega
        exact ⟨true, ev_one fun k => by simp only [match_match.l0, if_neg c1, if_pos c2, if_true], by simp [gm_nil]⟩
      | cons c cs =>
        have hl := hs.len
        rw [bytesOf_length, List.length_cons] at hl
        have c2 : ¬ (s.size : Int) = 0 := by omega
        exact ⟨false, ev_one fun k => by simp only [match_match.l0, if_neg c1, if_neg c2, Bool.false_eq_true, if_false], by simp [gm_nil]⟩
    | cons t ts =>
      simp only [List.length_cons] at hN
      obtain ⟨pc, q, hx, hpc, hq⟩ : ∃ pc q, bytesOf x = pc ++ q ∧ Pc pc t ∧ Pt q ts := by
        generalize bytesOf x = z at hp ⊢
        cases hp with
        | @cons c l _ _ hc ht => exact ⟨c, l, rfl, hc, ht⟩
      -- one character against one character
      have single : ∀ (y : ByteArray) (c : List Int) (r : Int), Ch c r → bytesOf y = c ++ q → y.size ≤ 140737488351232 → ∀ (d p : List Int) (sc : Int) (cs' : List Int), cs = sc :: cs' → bytesOf s = d ++ p → Ch d sc → Tx p cs' →
          ∃ b : Bool, Ev (fun k => match_match.j5 k s y 0 () (-1) false false r c.length sc d.length) (if b = true then 1 else 0) ∧ (b = true ↔ GM (.ch r :: ts) cs) := by
        intro y c r hc hy hyn d p sc cs' hcs hsb hd ht
        obtain ⟨_, _, _, z1⟩ := ch_first hc hy
        obtain ⟨_, _, _, z2⟩ := ch_first hd hsb
        have e1 := tail_bytes hsb
        have e2 := tail_bytes hy
        have n1 : (s.extract ((d.length : Int)).toNat s.size).size ≤ 140737488351232 := by rw [ByteArray.size_extract]; omega
        have n2 : (y.extract ((c.length : Int)).toNat y.size).size ≤ 140737488351232 := by rw [ByteArray.size_extract]; omega
        subst hcs
        simp only [List.length_cons] at hN
        obtain ⟨b, hb, hiff⟩ := ih cs' ts _ _ (by omega) n1 n2 (by rw [e1]; exact ht) (by rw [e2]; exact hq)
        by_cases k1 : sc = r
        · refine ⟨b, j6_ev (q := q) z2 z1 (fun _ => hb) (fun h => absurd k1 h), hiff.trans ?_⟩
          rw [gm_ch]
          exact ⟨fun h => ⟨cs', by rw [k1], h⟩, fun ⟨t', e, h⟩ => by simp only [List.cons.injEq] at e; rw [e.2]; exact h⟩
        · refine ⟨false, j6_ev (q := q) z2 z1 (fun h => absurd h k1) (fun _ => rfl), ?_⟩
          rw [gm_ch]
          refine ⟨fun h => (by cases h), ?_⟩
          rintro ⟨t', e, h⟩
          simp only [List.cons.injEq] at e
          exact absurd e.1 k1
      cases hpc with
      | one =>
        have c0 := fun R => head_pat (s := s) (R := R) ch63 hx
        cases cs with
        | nil =>
          have hz := tx_empty hs
          refine ⟨false, c0 _ (no_text hz (ev_one fun k => ?_)), ?_⟩
          · simp only [match_match.j2, if_true, Bool.false_eq_true, if_false]
          · rw [gm_one]; simp
        | cons c cs =>
          obtain ⟨d, p, hsb, hd, ht⟩ := tx_cons hs
          obtain ⟨_, _, _, z2⟩ := ch_first hd hsb
          obtain ⟨_, _, _, z1⟩ := ch_first ch63 hx
          have hdl := hd.len
          have e1 := tail_bytes hsb
          have e2 := tail_bytes (s := x) (c := [63]) hx
          have n1 : (s.extract ((d.length : Int)).toNat s.size).size ≤ 140737488351232 := by rw [ByteArray.size_extract]; omega
          have n2 : (x.extract ((([63] : List Int).length : Int)).toNat x.size).size ≤ 140737488351232 := by rw [ByteArray.size_extract]; omega
          simp only [List.length_cons] at hN
          obtain ⟨b, hb, hiff⟩ := ih cs ts _ _ (by omega) n1 n2 (by rw [e1]; exact ht) (by rw [e2]; exact hq)
          refine ⟨b, c0 _ (head_text hd hsb (Ev.step (fun k => ?_) hb)), hiff.trans ?_⟩
          · have c1 : ¬ (d.length : Int) = 0 := by omega
            have c2 : 0 ≤ (d.length : Int) := by omega
            have c3 : 0 ≤ (([63] : List Int).length : Int) := by omega
            simp only [match_match.j2, if_true, if_neg c1, if_pos c2, if_pos z2, Bool.false_eq_true, if_false, if_pos c3, if_pos z1]
          · rw [gm_one]
            exact ⟨fun h => ⟨c, cs, rfl, h⟩, fun ⟨c', t', e, h⟩ => by simp only [List.cons.injEq] at e; rw [e.2]; exact h⟩
      | @plain c r hc h42 h63 h92 =>
        have c0 := fun R => head_pat (s := s) (R := R) hc hx
        cases cs with
        | nil =>
          have hz := tx_empty hs
          refine ⟨false, c0 _ (no_text hz (ev_one fun k => ?_)), ?_⟩
          · simp only [match_match.j2, if_neg h63, if_neg h42, if_true, Bool.false_eq_true, if_false]
          · rw [gm_ch]; simp
        | cons sc cs =>
          obtain ⟨d, p, hsb, hd, ht⟩ := tx_cons hs
          have hdl := hd.len
          obtain ⟨b, hb, hiff⟩ := single x pc r hc hx hxn d p sc cs rfl hsb hd ht
          refine ⟨b, c0 _ (head_text hd hsb (Ev.step (fun k => ?_) hb)), hiff⟩
          have c1 : ¬ (d.length : Int) = 0 := by omega
          simp only [match_match.j2, if_neg h63, if_neg h42, if_neg c1, if_neg h92]
      | @esc c r hc =>
        have hx' : bytesOf x = [92] ++ (c ++ q) := hx
        have c0 := fun R => head_pat (s := s) (R := R) ch92 hx'
        have k1 : ¬ (92 : Int) = 63 := by decide
        have k2 : ¬ (92 : Int) = 42 := by decide
        cases cs with
        | nil =>
          have hz := tx_empty hs
          refine ⟨false, c0 _ (no_text hz (ev_one fun k => ?_)), ?_⟩
          · simp only [match_match.j2, if_neg k1, if_neg k2, if_true, Bool.false_eq_true, if_false]
          · rw [gm_ch]; simp
        | cons sc cs =>
          obtain ⟨d, p, hsb, hd, ht⟩ := tx_cons hs
          obtain ⟨_, _, _, z1⟩ := ch_first ch92 hx'
          have hdl := hd.len
          have hcl := hc.len
          have e2 := tail_bytes (s := x) (c := [92]) hx'
          have n2 : (x.extract ((([92] : List Int).length : Int)).toNat x.size).size ≤ 140737488351232 := by rw [ByteArray.size_extract]; omega
          obtain ⟨b, hb, hiff⟩ := single _ c r hc e2 n2 d p sc cs rfl hsb hd ht
          have c1 : ¬ (d.length : Int) = 0 := by omega
          have c2 : 0 ≤ (([92] : List Int).length : Int) := by omega
          have c3 : ¬ (c.length : Int) = 0 := by omega
          refine ⟨b, c0 _ (head_text hd hsb (Ev.step (f := fun k => (utf8_DecodeRuneInString.f k (x.extract ((([92] : List Int).length : Int)).toNat x.size)).bind fun g => if g.2 = 0 then some 0 else match_match.j5 k s (x.extract ((([92] : List Int).length : Int)).toNat x.size) 0 () (-1) false false g.1 g.2 sc d.length) (fun k => ?_)
            (Ev.bind (f := fun k g => if g.2 = 0 then some 0 else match_match.j5 k s (x.extract ((([92] : List Int).length : Int)).toNat x.size) 0 () (-1) false false g.1 g.2 sc d.length) (dec_ch hc e2) ?_))), hiff⟩
          · simp only [match_match.j2, if_neg k1, if_neg k2, if_neg c1, if_true, if_pos c2, if_pos z1]
          · simp only [if_neg c3]
            exact hb
      | star =>
        have k1 : ¬ (42 : Int) = 63 := by decide
        have c0 := fun R => head_pat (s := s) (R := R) ch42 hx
        -- what the first character of the text is
        obtain ⟨n, hn0, hn1, hgo⟩ : ∃ n : Int, 0 ≤ n ∧ (∀ c cs' d p, cs = c :: cs' → bytesOf s = d ++ p → Ch d c → n = d.length) ∧
            ∀ R, Ev (fun k => match_match.l1 k s x 0 () (-1) false n) R → Ev (fun k => match_match.l0 k s x 0 () (-1) false) R := by
          cases cs with
          | nil =>
            have hz := tx_empty hs
            refine ⟨0, by omega, (fun _ _ _ _ e => by cases e), fun R h => c0 _ (no_text hz (Ev.step (fun k => ?_) h))⟩
            simp only [match_match.j2, if_neg k1, if_true]
          | cons c cs =>
            obtain ⟨d, p, hsb, hd, ht⟩ := tx_cons hs
            refine ⟨d.length, by omega, fun c' cs' d' p' e _ hd' => ?_, fun R h => c0 _ (head_text hd hsb (Ev.step (fun k => ?_) h))⟩
            · simp only [List.cons.injEq] at e
              rw [← e.1] at hd'
              rw [hd.inj hd']
            · simp only [match_match.j2, if_neg k1, if_true]
        obtain ⟨ts2, l2, y, g1, g2, g3, g4, g5, g6⟩ := skip_stars (s := s) (n := n) ts q x hq hx
        suffices hsuf : ∃ b : Bool, Ev (fun k => match_match.j4 k s y 0 () (-1) false n) (if b = true then 1 else 0) ∧ (b = true ↔ GM (.star :: ts2) cs) by
          obtain ⟨b, hb, hiff⟩ := hsuf
          exact ⟨b, hgo _ (g6 _ hb), hiff.trans (g5 cs).symm⟩
        have hyz : y.size = l2.length + 1 := by rw [← bytesOf_length y, g2, List.length_cons]
        by_cases c1 : (y.size : Int) = 1
        · have : ts2 = [] := by
            have := g1.len
            exact List.eq_nil_of_length_eq_zero (by omega)
          subst this
          exact ⟨true, ev_one fun k => by simp only [match_match.j4, if_pos c1, if_true], by simp [gm_all]⟩
        · obtain ⟨⟨s3, y3, ok⟩, hR, hT, hS3, hY3⟩ := trim_ev cs.length cs ts2 s y l2 rfl hsn (by omega) hs g1 g2
          have hTf : Ev (fun k => match_matchTrimSuffix.f k s y false) (s3, y3, ok) := hR
          have start : ∀ b : Bool, Ev (fun k => if ok = true then (if (y3.size : Int) = 1 then (some 1) else (if 1 ≤ (y3.size : Int) then ((match_match.f k s3 (y3.extract 1 y3.size) 0 () (-1) false).bind fun t131 => (if t131 = 0 then (if (s3.size : Int) = 0 then (some 0) else (if 0 ≤ n then (if n ≤ (s3.size : Int) then (match_match.l0 k (s3.extract (n : Int).toNat s3.size) y3 0 () (-1) false) else (none)) else (none))) else (some t131))) else (none))) else (some 0)) (if b = true then 1 else 0) → Ev (fun k => match_match.j4 k s y 0 () (-1) false n) (if b = true then 1 else 0) := by
            intro b h
            refine Ev.step (f := fun k => (match_matchTrimSuffix.f k s y false).bind fun bt128 => (if bt128.2.2 = true then (if (bt128.2.1.size : Int) = 1 then (some 1) else (if 1 ≤ (bt128.2.1.size : Int) then ((match_match.f k bt128.1 (bt128.2.1.extract 1 bt128.2.1.size) 0 () (-1) false).bind fun t131 => (if t131 = 0 then (if (bt128.1.size : Int) = 0 then (some 0) else (if 0 ≤ n then (if n ≤ (bt128.1.size : Int) then (match_match.l0 k (bt128.1.extract (n : Int).toNat bt128.1.size) bt128.2.1 0 () (-1) false) else (none)) else (none))) else (some t131))) else (none))) else (some 0))) (fun k => by simp only [match_match.j4, if_neg c1]) ?_
            exact Ev.bind (f := fun k bt128 => (if bt128.2.2 = true then (if (bt128.2.1.size : Int) = 1 then (some 1) else (if 1 ≤ (bt128.2.1.size : Int) then ((match_match.f k bt128.1 (bt128.2.1.extract 1 bt128.2.1.size) 0 () (-1) false).bind fun t131 => (if t131 = 0 then (if (bt128.1.size : Int) = 0 then (some 0) else (if 0 ≤ n then (if n ≤ (bt128.1.size : Int) then (match_match.l0 k (bt128.1.extract (n : Int).toNat bt128.1.size) bt128.2.1 0 () (-1) false) else (none)) else (none))) else (some t131))) else (none))) else (some 0))) hTf h
          cases ok with
          | false =>
            refine ⟨false, start false (ev_const fun _ => by simp only [Bool.false_eq_true, if_false]), ?_⟩
            exact ⟨fun h => (by cases h), fun h => absurd h (hT.1 rfl)⟩
          | true =>
            obtain ⟨cs2, l3, ts3, cs3, h1, h2, h3, rfl, h5, h6⟩ := hT.2 rfl
            replace h1 : Tx (bytesOf s3) cs2 := h1
            replace h3 : bytesOf y3 = 42 :: l3 := h3
            simp only [List.length_append] at hN
            have hyz3 : y3.size = l3.length + 1 := by rw [← bytesOf_length y3, h3, List.length_cons]
            by_cases c2 : (y3.size : Int) = 1
            · have : ts3 = [] := by
                have := h2.len
                exact List.eq_nil_of_length_eq_zero (by omega)
              subst this
              exact ⟨true, start true (ev_const fun _ => by simp only [if_true, if_pos c2]), by simp only [true_iff]; exact h6.2 (gm_all _)⟩
            · have c3 : 1 ≤ (y3.size : Int) := by omega
              have e3 : bytesOf (y3.extract 1 y3.size) = l3 := by
                have := tail_bytes (s := y3) (c := [42]) (q := l3) h3
                simpa using this
              have hz3 : s3.size ≤ 140737488351232 := Nat.le_trans hS3 hsn
              have hl3y : y3.size ≤ 140737488351232 := Nat.le_trans hY3 (by omega)
              have n3 : (y3.extract 1 y3.size).size ≤ 140737488351232 := by rw [ByteArray.size_extract]; omega
              obtain ⟨b1, hb1, hi1⟩ := ih cs2 ts3 s3 (y3.extract 1 y3.size) (by omega) hz3 n3 h1 (by rw [e3]; exact h2)
              have hf : Ev (fun k => match_match.f k s3 (y3.extract 1 y3.size) 0 () (-1) false) (if b1 = true then 1 else 0) := by
                have c4 : ¬ ((-1 : Int) > (-1)) := by decide
                exact Ev.step (fun k => by simp only [match_match.f, if_neg c4]) hb1
              have go : ∀ b : Bool, Ev (fun k => if (if b1 = true then (1 : Int) else 0) = 0 then (if (s3.size : Int) = 0 then (some 0) else (if 0 ≤ n then (if n ≤ (s3.size : Int) then (match_match.l0 k (s3.extract (n : Int).toNat s3.size) y3 0 () (-1) false) else (none)) else (none))) else (some (if b1 = true then (1 : Int) else 0))) (if b = true then 1 else 0) → Ev (fun k => match_match.j4 k s y 0 () (-1) false n) (if b = true then 1 else 0) := by
                intro b h
                refine start b ?_
                simp only [if_true, if_neg c2, if_pos c3]
                exact Ev.bind (f := fun k t131 => (if t131 = 0 then (if (s3.size : Int) = 0 then (some 0) else (if 0 ≤ n then (if n ≤ (s3.size : Int) then (match_match.l0 k (s3.extract (n : Int).toNat s3.size) y3 0 () (-1) false) else (none)) else (none))) else (some t131))) hf h
              cases b1 with
              | true =>
                refine ⟨true, go true (ev_const fun _ => by simp), ?_⟩
                simp only [true_iff]
                exact h6.2 (gm_star.2 ⟨[], cs2, rfl, hi1.1 rfl⟩)
              | false =>
                have hno : ¬ GM ts3 cs2 := fun h => by have := hi1.2 h; cases this
                cases cs2 with
                | nil =>
                  have hz := tx_empty h1
                  have c5 : (s3.size : Int) = 0 := by omega
                  refine ⟨false, go false (ev_const fun _ => by simp [c5]), ?_⟩
                  exact ⟨fun h => (by cases h), fun h => absurd (gm_star_nil.1 (h6.1 h)) hno⟩
                | cons c cs2 =>
                  obtain ⟨d3, p3, hsb3, hd3, ht3⟩ := tx_cons h1
                  obtain ⟨d, p, hsb, hd, _⟩ := tx_cons (s := s) (c := c) (cs := cs2 ++ cs3) hs
                  obtain rfl := hd.inj hd3
                  have hnn : n = d.length := hn1 c (cs2 ++ cs3) d p rfl hsb hd
                  subst hnn
                  obtain ⟨z0, _, _, z1⟩ := ch_first hd hsb3
                  have e4 := tail_bytes hsb3
                  have n4 : (s3.extract ((d.length : Int)).toNat s3.size).size ≤ 140737488351232 := by rw [ByteArray.size_extract]; omega
                  simp only [List.length_cons] at hN
                  obtain ⟨b2, hb2, hi2⟩ := ih cs2 (.star :: ts3) _ y3 (by simp only [List.length_cons]; omega) n4 hl3y (by rw [e4]; exact ht3) (by rw [h3]; exact .cons .star h2)
                  have c5 : ¬ (s3.size : Int) = 0 := by omega
                  refine ⟨b2, go b2 ?_, hi2.trans ?_⟩
                  · refine Ev.congr (fun k => ?_) hb2
                    simp only [Bool.false_eq_true, if_false, if_true, if_neg c5, if_pos hn0, if_pos z1]
                  · rw [h6, gm_star_cons]
                    exact ⟨.inr, fun h => h.resolve_left hno⟩
end Go.Proofs.YtfpbbnllaogclaaDoor.J
end

section
namespace Go.Proofs.YtfpbbnllaogclaaDoor.J
open Go.RowKit Go.Proofs.YtfpbbnllaogclaaDoor.PA Go.Proofs.YtfpbbnllaogclaaDoorW.PrintWords Go.Proofs.YtfpbbnllaogclaaDoorW.PrintLast
set_option linter.unusedSimpArgs false
set_option linter.unusedVariables false
theorem Tx.det {l xs : List Int} (h : Tx l xs) : ∀ {l' : List Int}, Tx l' xs → l = l' := by
  induction h with
  | nil => intro l' h; cases h; rfl
  | @cons c l rs r hc _ ih =>
    intro l' h
    cases h with
    | @cons c' l'' _ _ hc' ht' => rw [hc.inj hc', ih ht']
theorem ch_det {c c' q q' : List Int} {r r' : Int} (h : Ch c r) (h' : Ch c' r') (he : c ++ q = c' ++ q') (hB : IsB (c ++ q)) : c = c' ∧ r = r' ∧ q = q' := by
  have e := bytesOf_str hB
  have e1 := h.chr (s := strOfNums (c ++ q)) (p := []) (q := q) (by rw [e, List.nil_append])
  have e2 := h'.chr (s := strOfNums (c ++ q)) (p := []) (q := q') (by rw [e, he, List.nil_append])
  have := e1.symm.trans e2
  simp only [Option.some.injEq, Prod.mk.injEq] at this
  obtain ⟨rfl, hl⟩ := this
  obtain rfl := h.inj h'
  exact ⟨rfl, rfl, List.append_cancel_left he⟩
theorem Tx.prefix {l rs : List Int} (h : Tx l rs) : ∀ {cs q : List Int}, Tx (l ++ q) cs → ∃ t, cs = rs ++ t ∧ Tx q t := by
  induction h with
  | nil => intro cs q h; exact ⟨cs, rfl, h⟩
  | @cons c l rs r hc _ ih =>
    intro cs q h
    have hB := h.isB
    generalize hz : c ++ l ++ q = z at h hB
    cases h with
    | nil =>
      have := hc.ne
      simp only [List.append_eq_nil_iff] at hz
      exact absurd hz.1.1 this
    | @cons c' l' rs' r' hc' ht' =>
      rw [List.append_assoc] at hz
      obtain ⟨rfl, rfl, rfl⟩ := ch_det hc hc' hz (by rw [hz]; exact hB)
      obtain ⟨t, rfl, ht⟩ := ih ht'
      exact ⟨t, rfl, ht⟩
theorem mt_ev {s x : ByteArray} {cs : List Int} {ts : List Tm} (hsn : s.size ≤ 140737488351232) (hxn : x.size ≤ 140737488351232) (hs : Tx (bytesOf s) cs) (hp : Pt (bytesOf x) ts) :
    ∃ b : Bool, Ev (fun k => impl_MtMatch.f k s x) b ∧ (b = true ↔ GM ts cs) := by
  have top : ∀ b : Bool, Ev (fun k => match_match0.f k s x false) b → Ev (fun k => impl_MtMatch.f k s x) b := by
    intro b h
    have h1 : Ev (fun k => match_Match.f k s x) b := Ev.bind (f := fun _ t => some t) h (ev_const fun _ => rfl)
    exact Ev.bind (f := fun _ t => some t) h1 (ev_const fun _ => rfl)
  by_cases c1 : x.toList = ([42] : List UInt8)
  · have e : bytesOf x = 42 :: [] := by
      have := (toList_iff x (⟨#[42]⟩ : ByteArray)).1 (by rw [c1, Go.ByteArray.toList_eq])
      rw [this]; rfl
    rw [e] at hp
    obtain ⟨ts', rfl, hp'⟩ := first_star hp
    have : ts' = [] := List.eq_nil_of_length_eq_zero (by have := hp'.len; simpa using this)
    subst this
    exact ⟨true, top true (ev_const fun _ => by simp only [match_match0.f, if_pos c1]), by simp [gm_all]⟩
  · obtain ⟨b, hb, hi⟩ := match_ev _ cs ts s x (Nat.le_refl _) hsn hxn hs hp
    refine ⟨b, top b ?_, hi⟩
    have c4 : ¬ ((-1 : Int) > (-1)) := by decide
    have hf : Ev (fun k => match_match.f k s x 0 () (-1) false) (if b = true then 1 else 0) := Ev.step (fun k => by simp only [match_match.f, if_neg c4]) hb
    refine Ev.congr (f := fun k => (match_match.f k s x 0 () (-1) false).bind fun t => some (t == 1)) (fun k => by simp only [match_match0.f, if_neg c1]) ?_
    exact Ev.bind (f := fun _ t => some (t == 1)) hf (ev_const fun _ => by cases b <;> rfl)
end Go.Proofs.YtfpbbnllaogclaaDoor.J
end
