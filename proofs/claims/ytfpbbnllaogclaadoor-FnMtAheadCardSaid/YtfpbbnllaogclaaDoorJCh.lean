/- Texts in UTF-8 as characters one behind the other: plain laws. -/
import Derived.Test.YtfpbbnllaogclaaDoorJDec
import Derived.Test.YtfpbbnllaogclaaDoorPAx9
namespace Go.Proofs.YtfpbbnllaogclaaDoor.J
open Go.RowKit Go.Proofs.YtfpbbnllaogclaaDoor.PA Go.Proofs.YtfpbbnllaogclaaDoorW.PrintWords Go.Proofs.YtfpbbnllaogclaaDoorW.PrintLast
set_option linter.unusedSimpArgs false
set_option linter.unusedVariables false
/-- These bytes are one character in UTF-8. -/
inductive Ch : List Int → Int → Prop
  | one {a : Int} : 0 ≤ a → a ≤ 127 → Ch [a] a
  | two {a b r : Int} : 194 ≤ a → a ≤ 223 → 128 ≤ b → b ≤ 191 → r = (a - 192) * 64 + b - 128 → Ch [a, b] r
  | three {a b c r : Int} : 224 ≤ a → a ≤ 239 → 128 ≤ b → b ≤ 191 → 128 ≤ c → c ≤ 191 → r = ((a - 224) * 64 + b - 128) * 64 + c - 128 → 2048 ≤ r → ¬ (55296 ≤ r ∧ r ≤ 57343) → Ch [a, b, c] r
  | four {a b c d r : Int} : 240 ≤ a → a ≤ 244 → 128 ≤ b → b ≤ 191 → 128 ≤ c → c ≤ 191 → 128 ≤ d → d ≤ 191 → r = (((a - 240) * 64 + b - 128) * 64 + c - 128) * 64 + d - 128 → 65536 ≤ r → r ≤ 1114111 → Ch [a, b, c, d] r
theorem Ch.len {c : List Int} {r : Int} (h : Ch c r) : 1 ≤ c.length ∧ c.length ≤ 4 := by cases h <;> simp
theorem Ch.ne {c : List Int} {r : Int} (h : Ch c r) : c ≠ [] := by cases h <;> simp
theorem Ch.rune {c : List Int} {r : Int} (h : Ch c r) : 0 ≤ r ∧ r ≤ 1114111 := by cases h <;> omega
/-- The rune tells the bytes. -/
theorem Ch.inj {c c' : List Int} {r : Int} (h : Ch c r) (h' : Ch c' r) : c = c' := by
  cases h <;> cases h' <;> first | omega | rfl | (simp only [List.cons.injEq, and_true]; omega)
/-- Either one byte below 128, or more, all of 128 and above, the first 194 and above, the others below 192. -/
theorem Ch.parts {c : List Int} {r : Int} (h : Ch c r) : (c = [r] ∧ 0 ≤ r ∧ r ≤ 127) ∨ (∃ a t, c = a :: t ∧ 194 ≤ a ∧ a ≤ 244 ∧ t ≠ [] ∧ (∀ x ∈ t, 128 ≤ x ∧ x ≤ 191) ∧ 128 ≤ r) := by
  cases h with
  | one h0 h1 => exact .inl ⟨rfl, h0, h1⟩
  | two => exact .inr ⟨_, _, rfl, by omega, by omega, by simp, by simp; omega, by omega⟩
  | three => exact .inr ⟨_, _, rfl, by omega, by omega, by simp, by simp; omega, by omega⟩
  | four => exact .inr ⟨_, _, rfl, by omega, by omega, by simp, by simp; omega, by omega⟩
theorem Ch.isB {c : List Int} {r : Int} (h : Ch c r) : IsB c := by
  rcases h.parts with ⟨rfl, h0, h1⟩ | ⟨a, t, rfl, h0, h1, _, h2, _⟩
  · intro x hx
    simp only [List.mem_singleton] at hx
    omega
  · intro x hx
    rcases List.mem_cons.1 hx with rfl | hx
    · omega
    · have := h2 x hx; omega
/-- The bytes of a list stand in the text from i on. -/
theorem bt_split {s : ByteArray} {p c q : List Int} (h : bytesOf s = p ++ (c ++ q)) (d : Nat) (hd : d < c.length) : bt s ((p.length : Int) + d) = c.getD d 0 := by
  rw [bt_get, h]
  have e : ((p.length : Int) + d).toNat = p.length + d := by omega
  rw [e, List.getD_eq_getElem?_getD, List.getElem?_append_right (by omega), Nat.add_sub_cancel_left, List.getElem?_append_left hd, ← List.getD_eq_getElem?_getD]
theorem Ch.chr {s : ByteArray} {p c q : List Int} {r : Int} (hc : Ch c r) (h : bytesOf s = p ++ (c ++ q)) : chr s p.length = some (r, (c.length : Int)) := by
  have hz : (s.size : Int) = p.length + c.length + q.length := by
    rw [← bytesOf_length s, h, List.length_append, List.length_append]; omega
  have hb := bt_split h
  cases hc with
  | one h0 h1 =>
    have b0 : bt s p.length = r := by simpa using hb 0 (by simp)
    unfold J.chr
    rw [b0, if_pos (by omega)]
    rfl
  | @two a b r h0 h1 h2 h3 hr =>
    have b0 : bt s p.length = a := by simpa using hb 0 (by simp)
    have b1 : bt s (p.length + 1) = b := by simpa using hb 1 (by simp)
    simp only [List.length_cons, List.length_nil] at hz
    unfold J.chr
    rw [b0, if_neg (by omega), if_pos ⟨h0, h1⟩]
    unfold multi
    rw [if_neg (by omega), conts_1, b1, if_pos ⟨h2, h3⟩, ← hr]
    simp only []
    rw [if_neg (by omega)]
    rfl
  | @three a b c r h0 h1 h2 h3 h4 h5 hr h6 h7 =>
    have b0 : bt s p.length = a := by simpa using hb 0 (by simp)
    have b1 : bt s (p.length + 1) = b := by simpa using hb 1 (by simp)
    have b2 : bt s (p.length + 1 + 1) = c := by rw [Int.add_assoc]; simpa using hb 2 (by simp)
    simp only [List.length_cons, List.length_nil] at hz
    unfold J.chr
    rw [b0, if_neg (by omega), if_neg (by omega), if_pos ⟨h0, h1⟩]
    unfold multi
    rw [if_neg (by omega), conts_succ, b1, if_pos ⟨h2, h3⟩, conts_1, b2, if_pos ⟨h4, h5⟩, ← hr]
    simp only []
    rw [if_neg (by omega)]
    rfl
  | @four a b c d r h0 h1 h2 h3 h4 h5 h6 h7 hr h8 h9 =>
    have b0 : bt s p.length = a := by simpa using hb 0 (by simp)
    have b1 : bt s (p.length + 1) = b := by simpa using hb 1 (by simp)
    have b2 : bt s (p.length + 1 + 1) = c := by rw [Int.add_assoc]; simpa using hb 2 (by simp)
    have b3 : bt s (p.length + 1 + 1 + 1) = d := by rw [Int.add_assoc, Int.add_assoc]; simpa using hb 3 (by simp)
    simp only [List.length_cons, List.length_nil] at hz
    unfold J.chr
    rw [b0, if_neg (by omega), if_neg (by omega), if_neg (by omega), if_pos ⟨h0, h1⟩]
    unfold multi
    rw [if_neg (by omega), conts_succ, b1, if_pos ⟨h2, h3⟩, conts_succ, b2, if_pos ⟨h4, h5⟩, conts_1, b3, if_pos ⟨h6, h7⟩, ← hr]
    simp only []
    rw [if_neg (by omega)]
    rfl
theorem drop_bt {s : ByteArray} {i : Nat} (h : (i : Int) < s.size) : (bytesOf s).drop i = bt s i :: (bytesOf s).drop (i + 1) := by
  have hl : i < (bytesOf s).length := by rw [bytesOf_length]; omega
  rw [List.drop_eq_getElem_cons hl, bt_nat, List.getD_eq_getElem?_getD, List.getElem?_eq_getElem hl]
  rfl
theorem chr_ch {s : ByteArray} {i : Nat} {r n : Int} (hi : (i : Int) < s.size) (h : chr s i = some (r, n)) : ∃ c, Ch c r ∧ (c.length : Int) = n ∧ (bytesOf s).drop i = c ++ (bytesOf s).drop (i + c.length) := by
  have hl := chr_len hi h
  have lo := bt_lo s i
  have d0 := drop_bt hi
  unfold chr at h
  split at h
  · rename_i c1
    simp only [Option.some.injEq, Prod.mk.injEq] at h
    obtain ⟨rfl, rfl⟩ := h
    exact ⟨[bt s i], .one lo (by omega), rfl, d0⟩
  split at h
  · rename_i c1 c2
    have hm := multi_len h
    have d1 := drop_bt (s := s) (i := i + 1) (by omega)
    unfold multi at h
    rw [if_neg (by omega), conts_1] at h
    split at h
    · cases h
    · rename_i x hx
      split at hx
      · rename_i c3
        split at h
        · cases h
        · simp only [Option.some.injEq, Prod.mk.injEq] at h hx
          refine ⟨[bt s i, bt s (i + 1)], .two c2.1 c2.2 c3.1 c3.2 (by rw [← h.1, ← hx]), by rw [← h.2]; rfl, ?_⟩
          rw [d0, d1]; rfl
      · cases hx
  split at h
  · rename_i c1 c2 c3
    have hm := multi_len h
    have d1 := drop_bt (s := s) (i := i + 1) (by omega)
    have d2 := drop_bt (s := s) (i := i + 1 + 1) (by omega)
    unfold multi at h
    rw [if_neg (by omega), conts_succ] at h
    split at h
    · cases h
    · rename_i x hx
      split at hx
      · rename_i c4
        rw [conts_1] at hx
        split at hx
        · rename_i c5
          split at h
          · cases h
          · rename_i c6
            simp only [Option.some.injEq, Prod.mk.injEq] at h hx
            refine ⟨[bt s i, bt s (i + 1), bt s (i + 1 + 1)], .three c3.1 c3.2 c4.1 c4.2 c5.1 c5.2 (by rw [← h.1, ← hx]) (by omega) (by omega), by rw [← h.2]; rfl, ?_⟩
            rw [d0, d1, d2]; rfl
        · cases hx
      · cases hx
  split at h
  · rename_i c1 c2 c3 c4
    have hm := multi_len h
    have d1 := drop_bt (s := s) (i := i + 1) (by omega)
    have d2 := drop_bt (s := s) (i := i + 1 + 1) (by omega)
    have d3 := drop_bt (s := s) (i := i + 1 + 1 + 1) (by omega)
    unfold multi at h
    rw [if_neg (by omega), conts_succ] at h
    split at h
    · cases h
    · rename_i x hx
      split at hx
      · rename_i c5
        rw [conts_succ] at hx
        split at hx
        · rename_i c6
          rw [conts_1] at hx
          split at hx
          · rename_i c7
            split at h
            · cases h
            · rename_i c8
              simp only [Option.some.injEq, Prod.mk.injEq] at h hx
              refine ⟨[bt s i, bt s (i + 1), bt s (i + 1 + 1), bt s (i + 1 + 1 + 1)], .four c4.1 c4.2 c5.1 c5.2 c6.1 c6.2 c7.1 c7.2 (by rw [← h.1, ← hx]) (by omega) (by omega), by rw [← h.2]; rfl, ?_⟩
              rw [d0, d1, d2, d3]; rfl
          · cases hx
        · cases hx
      · cases hx
  · cases h
/-- Bytes that are characters one behind the other. -/
inductive Tx : List Int → List Int → Prop
  | nil : Tx [] []
  | cons {c l rs : List Int} {r : Int} : Ch c r → Tx l rs → Tx (c ++ l) (r :: rs)
theorem Tx.append {a b xs ys : List Int} (h : Tx a xs) (k : Tx b ys) : Tx (a ++ b) (xs ++ ys) := by
  induction h with
  | nil => exact k
  | cons hc _ ih => rw [List.append_assoc]; exact .cons hc ih
theorem Tx.split : ∀ {xs ys l : List Int}, Tx l (xs ++ ys) → ∃ a b, l = a ++ b ∧ Tx a xs ∧ Tx b ys
  | [], ys, l, h => ⟨[], l, rfl, .nil, h⟩
  | x :: xs, ys, l, h => by
    cases h with
    | @cons c l' _ _ hc ht =>
      obtain ⟨a, b, rfl, ha, hb⟩ := Tx.split ht
      exact ⟨c ++ a, b, by rw [List.append_assoc], .cons hc ha, hb⟩
theorem Tx.snoc {xs l : List Int} {x : Int} (h : Tx l (xs ++ [x])) : ∃ a c, l = a ++ c ∧ Tx a xs ∧ Ch c x := by
  obtain ⟨a, b, rfl, ha, hb⟩ := h.split
  cases hb with
  | @cons c l' _ _ hc ht =>
    cases ht
    exact ⟨a, c, by rw [List.append_nil], ha, hc⟩
theorem Tx.isB {l rs : List Int} (h : Tx l rs) : IsB l := by
  induction h with
  | nil => exact isB_nil
  | cons hc _ ih => exact hc.isB.append ih
theorem Tx.len {l rs : List Int} (h : Tx l rs) : rs.length ≤ l.length := by
  induction h with
  | nil => exact Nat.le_refl _
  | cons hc _ ih =>
    have := hc.len
    rw [List.length_append, List.length_cons]; omega
theorem utf_tx {s : ByteArray} {i : Int} (h : Utf s i) (h0 : 0 ≤ i) (h1 : i ≤ s.size) : ∃ rs, Tx ((bytesOf s).drop i.toNat) rs := by
  induction h with
  | done h =>
    refine ⟨[], ?_⟩
    rw [List.drop_eq_nil_of_le (by rw [bytesOf_length]; omega)]
    exact .nil
  | @next i r n hi hc _ ih =>
    have hl := chr_len hi hc
    obtain ⟨k, rfl⟩ : ∃ k : Nat, i = k := ⟨i.toNat, by omega⟩
    obtain ⟨c, hch, hn, hd⟩ := chr_ch hi hc
    obtain ⟨rs, ht⟩ := ih (by omega) (by omega)
    refine ⟨r :: rs, ?_⟩
    rw [Int.toNat_natCast, hd]
    rw [show ((k : Int) + n).toNat = k + c.length by omega] at ht
    exact .cons hch ht
theorem utf_text {s : ByteArray} (h : Utf s 0) : ∃ rs, Tx (bytesOf s) rs := by
  obtain ⟨rs, ht⟩ := utf_tx h (by omega) (by omega)
  exact ⟨rs, by simpa using ht⟩
/-- What is decoded first. -/
theorem dec_ch {s : ByteArray} {c q : List Int} {r : Int} (hc : Ch c r) (h : bytesOf s = c ++ q) : Ev (fun k => utf8_DecodeRuneInString.f k s) (r, (c.length : Int)) := by
  have hl := hc.len
  have hz : s.size = c.length + q.length := by rw [← bytesOf_length s, h, List.length_append]
  have e := hc.chr (p := []) (s := s) (q := q) (by simpa using h)
  have := dec_ev (s := s) (by omega)
  rw [dec_some (show chr s 0 = _ from e)] at this
  exact this
theorem ch_first {s : ByteArray} {c q : List Int} {r : Int} (hc : Ch c r) (h : bytesOf s = c ++ q) : 0 < (s.size : Int) ∧ (bt s 0 ≤ 127 → bt s 0 = r ∧ c = [r]) ∧ (128 ≤ bt s 0 → 128 ≤ r) ∧ (c.length : Int) ≤ s.size := by
  have hl := hc.len
  have hz : s.size = c.length + q.length := by rw [← bytesOf_length s, h, List.length_append]
  have b0 : bt s 0 = c.getD 0 0 := by
    have := bt_split (p := []) (s := s) (c := c) (q := q) (by simpa using h) 0 (by omega)
    simpa using this
  refine ⟨by omega, fun h1 => ?_, fun h1 => ?_, by omega⟩
  · rcases hc.parts with ⟨rfl, h2, h3⟩ | ⟨a, t, rfl, h2, h3, _, _, _⟩
    · exact ⟨by simpa using b0, rfl⟩
    · simp at b0; omega
  · rcases hc.parts with ⟨rfl, h2, h3⟩ | ⟨a, t, rfl, h2, h3, _, _, h4⟩
    · simp at b0; omega
    · exact h4
theorem tail_bytes {s : ByteArray} {c q : List Int} (h : bytesOf s = c ++ q) : bytesOf (s.extract ((c.length : Int)).toNat s.size) = q := by
  rw [bytesOf_extract, Int.toNat_natCast, h, ← bytesOf_length s, h, List.take_length, List.drop_left]
theorem head_bytes {s : ByteArray} {c q : List Int} (h : bytesOf s = c ++ q) {n : Int} (hn : n = c.length) : bytesOf (s.extract 0 n.toNat) = c := by
  rw [bytesOf_extract, hn, Int.toNat_natCast, h, List.take_left, List.drop_zero]
end Go.Proofs.YtfpbbnllaogclaaDoor.J
