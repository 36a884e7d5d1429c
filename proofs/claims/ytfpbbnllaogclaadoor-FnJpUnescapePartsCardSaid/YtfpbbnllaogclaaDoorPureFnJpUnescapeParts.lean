/- If two texts are the insides of JSON strings without half surrogate pairs, what Unescape gives for the one behind the other is what it gives for the first and what it gives for the second; no condition at all. -/
import Derived.Test.YtfpbbnllaogclaaDoorPJx10
import Derived.Test.YtfpbbnllaogclaaDoorPJx11
import Derived.Test.YtfpbbnllaogclaaDoorPJx12
import Derived.Test.YtfpbbnllaogclaaDoorPJx13
import Derived.Test.YtfpbbnllaogclaaDoorPJx14
import Derived.Test.YtfpbbnllaogclaaDoorPJx15
import Derived.Test.YtfpbbnllaogclaaDoorPJx16
import Derived.Test.YtfpbbnllaogclaaDoorPJx17
import Derived.Test.YtfpbbnllaogclaaDoorPJx18
import Derived.Test.YtfpbbnllaogclaaDoorPJx19
import Derived.Test.YtfpbbnllaogclaaDoorPJx20
import Derived.Test.YtfpbbnllaogclaaDoorPJx3
import Derived.Test.YtfpbbnllaogclaaDoorPJx4
import Derived.Test.YtfpbbnllaogclaaDoorPJx5
import Derived.Test.YtfpbbnllaogclaaDoorPJx6
import Derived.Test.YtfpbbnllaogclaaDoorPJx7
import Derived.Test.YtfpbbnllaogclaaDoorJEsc
namespace Go.Proofs.YtfpbbnllaogclaaDoor.Pure
open Go.RowKit Go.Proofs.YtfpbbnllaogclaaDoor.PJ Go.Proofs.YtfpbbnllaogclaaDoor.J Go.Proofs.YtfpbbnllaogclaaDoorW.PrintWords Go.Proofs.YtfpbbnllaogclaaDoorW.PrintLast
set_option linter.unusedSimpArgs false
set_option linter.unusedVariables false
/-! ### digits -/
def hv (c : Int) : Int := if c ≤ 57 then c - 48 else if c ≤ 70 then c - 55 else c - 87
theorem hv_range {c : Int} (h : hex c = true) : 0 ≤ hv c ∧ hv c ≤ 15 := by
  rw [hex_iff] at h
  unfold hv
  split
  · omega
  · split <;> omega
theorem hexDigit_val {c : Int} (h : hex c = true) : Ev (fun k => spec_hexDigit.f k c) (hv c, true) := by
  have hh := (hex_iff c).1 h
  by_cases a : 48 ≤ c ∧ c ≤ 57
  · have e : hv c = (c - 48) % 256 := by unfold hv; rw [if_pos a.2]; omega
    rw [e]
    refine ev_one fun k => ?_
    simp (disch := omega) only [spec_hexDigit.f, spec_hexDigit.j0, if_pos, decide_eq_true a.2, if_true]
  · have st : ∀ k, spec_hexDigit.f (k + 1) c = if 97 ≤ c then spec_hexDigit.j1 k c (decide (c ≤ 102)) else spec_hexDigit.j1 k c false := fun k => by
      unfold spec_hexDigit.f
      split
      · rw [decide_eq_false (by omega)]; simp only [spec_hexDigit.j0, Bool.false_eq_true, if_false]
      · simp only [spec_hexDigit.j0, Bool.false_eq_true, if_false]
    by_cases b : 97 ≤ c ∧ c ≤ 102
    · have e : hv c = ((c - 97) % 256) + 10 := by unfold hv; rw [if_neg (by omega), if_neg (by omega)]; omega
      rw [e]
      refine Ev.step st (ev_one fun k => ?_)
      simp (disch := omega) only [spec_hexDigit.j1, if_pos, decide_eq_true b.2, if_true]
    · have st2 : ∀ k, (if 97 ≤ c then spec_hexDigit.j1 (k + 1) c (decide (c ≤ 102)) else spec_hexDigit.j1 (k + 1) c false) = if 65 ≤ c then (if c ≤ 70 then some (((c - 65) % 256) + 10, true) else some (0, false)) else some (0, false) := fun k => by
        split
        · rw [decide_eq_false (by omega)]; simp only [spec_hexDigit.j1, Bool.false_eq_true, if_false]
        · simp only [spec_hexDigit.j1, Bool.false_eq_true, if_false]
      have e : hv c = ((c - 65) % 256) + 10 := by unfold hv; rw [if_neg (by omega), if_pos (by omega)]; omega
      rw [e]
      refine Ev.step st (ev_one fun k => ?_)
      rw [st2, if_pos (by omega), if_pos (by omega)]
theorem h2I_ev (c : Int) (h0 : 0 ≤ c) (h1 : c ≤ 255) : Ev (fun k => jsonparser_h2I.f k c) (if hex c = true then hv c else -1) := by
  by_cases a : 48 ≤ c ∧ c ≤ 57
  · rw [if_pos ((hex_iff c).2 (.inl a))]
    have e : hv c = (c - 48) % 256 := by unfold hv; rw [if_pos a.2]; omega
    rw [e]
    refine ev_one fun k => ?_
    simp (disch := omega) only [jsonparser_h2I.f, jsonparser_h2I.j0, if_pos, decide_eq_true a.2, if_true]
  · have st : ∀ k, jsonparser_h2I.f (k + 1) c = if 65 ≤ c then jsonparser_h2I.j1 k c (decide (c ≤ 70)) else jsonparser_h2I.j1 k c false := fun k => by
      unfold jsonparser_h2I.f
      split
      · rw [decide_eq_false (by omega)]; simp only [jsonparser_h2I.j0, Bool.false_eq_true, if_false, ge_iff_le]
      · simp only [jsonparser_h2I.j0, Bool.false_eq_true, if_false, ge_iff_le]
    by_cases b : 65 ≤ c ∧ c ≤ 70
    · rw [if_pos ((hex_iff c).2 (.inr (.inr b)))]
      have e : hv c = ((c - 65) % 256) + 10 := by unfold hv; rw [if_neg (by omega), if_pos (by omega)]; omega
      rw [e]
      refine Ev.step st (ev_one fun k => ?_)
      simp (disch := omega) only [jsonparser_h2I.j1, if_pos, decide_eq_true b.2, if_true]
    · have st2 : ∀ k, (if 65 ≤ c then jsonparser_h2I.j1 (k + 1) c (decide (c ≤ 70)) else jsonparser_h2I.j1 (k + 1) c false) = if 97 ≤ c then (if c ≤ 102 then some (((c - 97) % 256) + 10) else some (-1)) else some (-1) := fun k => by
        split
        · rw [decide_eq_false (by omega)]; simp only [jsonparser_h2I.j1, Bool.false_eq_true, if_false, ge_iff_le]
        · simp only [jsonparser_h2I.j1, Bool.false_eq_true, if_false, ge_iff_le]
      by_cases d : 97 ≤ c ∧ c ≤ 102
      · rw [if_pos ((hex_iff c).2 (.inr (.inl d)))]
        have e : hv c = ((c - 97) % 256) + 10 := by unfold hv; rw [if_neg (by omega), if_neg (by omega)]; omega
        rw [e]
        refine Ev.step st (ev_one fun k => ?_)
        rw [st2, if_pos d.1, if_pos d.2]
      · rw [(hex_not c).2 (by omega), if_neg (by decide)]
        refine Ev.step st (ev_one fun k => ?_)
        rw [st2]
        split
        · rw [if_neg (by omega)]
        · rfl
def val4 (a b c d : Int) : Int := ((hv a * 16 + hv b) * 16 + hv c) * 16 + hv d
def hex4 (a b c d : Int) : Prop := hex a = true ∧ hex b = true ∧ hex c = true ∧ hex d = true
theorem val4_range {a b c d : Int} (h : hex4 a b c d) : 0 ≤ val4 a b c d ∧ val4 a b c d ≤ 65535 := by
  obtain ⟨h1, h2, h3, h4⟩ := h
  have r1 := hv_range h1
  have r2 := hv_range h2
  have r3 := hv_range h3
  have r4 := hv_range h4
  unfold val4
  omega
def isHigh (v : Int) : Bool := decide (55296 ≤ v ∧ v ≤ 56319)
def isLow (v : Int) : Bool := decide (56320 ≤ v ∧ v ≤ 57343)
theorem high_eq (v : Int) : spec_high.f v = some (isHigh v) := by
  unfold spec_high.f isHigh
  split
  · congr 1; rw [Bool.eq_iff_iff]; simp only [decide_eq_true_iff]; omega
  · rw [decide_eq_false (by omega)]
theorem low_eq (v : Int) : spec_low.f v = some (isLow v) := by
  unfold spec_low.f isLow
  split
  · congr 1; rw [Bool.eq_iff_iff]; simp only [decide_eq_true_iff]; omega
  · rw [decide_eq_false (by omega)]
/-! ### the text, taken apart -/
inductive Good : List Int → List Int → Prop
  | nil : Good [] []
  | char {c : Int} {l r : List Int} : c ≠ 92 → Good l r → Good (c :: l) (c :: r)
  | two {e : Int} {l r : List Int} : short e = true → Good l r → Good (92 :: e :: l) (UN.tb e :: r)
  | uni {a b c d : Int} {l r : List Int} : hex4 a b c d → isHigh (val4 a b c d) = false → isLow (val4 a b c d) = false → Good l r → Good (92 :: 117 :: a :: b :: c :: d :: l) (Lib.encodeRuneZ (val4 a b c d) ++ r)
  | pair {a b c d e f g h : Int} {l r : List Int} : hex4 a b c d → hex4 e f g h → isHigh (val4 a b c d) = true → isLow (val4 e f g h) = true → Good l r →
      Good (92 :: 117 :: a :: b :: c :: d :: 92 :: 117 :: e :: f :: g :: h :: l) (Lib.encodeRuneZ (65536 + (val4 a b c d - 55296) * 1024 + (val4 e f g h - 56320)) ++ r)
theorem Good.append {a b r q : List Int} (h : Good a r) (k : Good b q) : Good (a ++ b) (r ++ q) := by
  induction h with
  | nil => exact k
  | char hc _ ih => exact .char hc ih
  | two he _ ih => exact .two he ih
  | uni h1 h2 h3 _ ih => rw [List.append_assoc]; exact .uni h1 h2 h3 ih
  | pair h1 h2 h3 h4 _ ih => rw [List.append_assoc]; exact .pair h1 h2 h3 h4 ih
theorem single_ev {a b c d x y : Int} {l : List Int} (h : hex4 a b c d) : Ev (fun k => jsonparser_decodeSingleUnicodeEscape.f k (x :: y :: a :: b :: c :: d :: l)) (val4 a b c d, true) := by
  obtain ⟨h1, h2, h3, h4⟩ := h
  have r1 := hv_range h1
  have r2 := hv_range h2
  have r3 := hv_range h3
  have r4 := hv_range h4
  have e1 := h2I_ev a (by rw [hex_iff] at h1; omega) (by rw [hex_iff] at h1; omega)
  have e2 := h2I_ev b (by rw [hex_iff] at h2; omega) (by rw [hex_iff] at h2; omega)
  have e3 := h2I_ev c (by rw [hex_iff] at h3; omega) (by rw [hex_iff] at h3; omega)
  have e4 := h2I_ev d (by rw [hex_iff] at h4; omega) (by rw [hex_iff] at h4; omega)
  rw [if_pos h1] at e1
  rw [if_pos h2] at e2
  rw [if_pos h3] at e3
  rw [if_pos h4] at e4
  have hl : ((x :: y :: a :: b :: c :: d :: l).length : Int) = l.length + 6 := by simp; omega
  have g2 : rd (x :: y :: a :: b :: c :: d :: l) 2 = a := rfl
  have g3 : rd (x :: y :: a :: b :: c :: d :: l) 3 = b := rfl
  have g4 : rd (x :: y :: a :: b :: c :: d :: l) 4 = c := rfl
  have g5 : rd (x :: y :: a :: b :: c :: d :: l) 5 = d := rfl
  refine Ev.congr (f := fun k => (jsonparser_h2I.f k a).bind fun t178 => ((jsonparser_h2I.f k b).bind fun t180 => ((jsonparser_h2I.f k c).bind fun t182 => ((jsonparser_h2I.f k d).bind fun t184 => (if t178 = (-1) then (some (65533, false)) else (if t180 = (-1) then (some (65533, false)) else (if t182 = (-1) then (some (65533, false)) else (if t184 = (-1) then (some (65533, false)) else (some (wrap32 (wrap64 ((wrap64 ((wrap64 ((wrap64 (t178 * 4096)) + (wrap64 (t180 * 256)))) + (wrap64 (t182 * 16)))) + t184)), true)))))))))) (fun k => ?_) ?_
  · rw [jsonparser_decodeSingleUnicodeEscape.f, hl, if_neg (by omega), if_pos (by omega), g2, g3, g4, g5]
    congr 1; funext t
    rw [if_pos (by omega)]
    congr 1; funext t
    rw [if_pos (by omega)]
    congr 1; funext t
    rw [if_pos (by omega)]
  refine Ev.bind (f := fun k t178 => ((jsonparser_h2I.f k b).bind fun t180 => ((jsonparser_h2I.f k c).bind fun t182 => ((jsonparser_h2I.f k d).bind fun t184 => (if t178 = (-1) then (some (65533, false)) else (if t180 = (-1) then (some (65533, false)) else (if t182 = (-1) then (some (65533, false)) else (if t184 = (-1) then (some (65533, false)) else (some (wrap32 (wrap64 ((wrap64 ((wrap64 ((wrap64 (t178 * 4096)) + (wrap64 (t180 * 256)))) + (wrap64 (t182 * 16)))) + t184)), true)))))))))) e1 ?_
  refine Ev.bind (f := fun k t180 => ((jsonparser_h2I.f k c).bind fun t182 => ((jsonparser_h2I.f k d).bind fun t184 => (if hv a = (-1) then (some (65533, false)) else (if t180 = (-1) then (some (65533, false)) else (if t182 = (-1) then (some (65533, false)) else (if t184 = (-1) then (some (65533, false)) else (some (wrap32 (wrap64 ((wrap64 ((wrap64 ((wrap64 (hv a * 4096)) + (wrap64 (t180 * 256)))) + (wrap64 (t182 * 16)))) + t184)), true))))))))) e2 ?_
  refine Ev.bind (f := fun k t182 => ((jsonparser_h2I.f k d).bind fun t184 => (if hv a = (-1) then (some (65533, false)) else (if hv b = (-1) then (some (65533, false)) else (if t182 = (-1) then (some (65533, false)) else (if t184 = (-1) then (some (65533, false)) else (some (wrap32 (wrap64 ((wrap64 ((wrap64 ((wrap64 (hv a * 4096)) + (wrap64 (hv b * 256)))) + (wrap64 (t182 * 16)))) + t184)), true)))))))) e3 ?_
  refine Ev.bind (f := fun k t184 => (if hv a = (-1) then (some (65533, false)) else (if hv b = (-1) then (some (65533, false)) else (if hv c = (-1) then (some (65533, false)) else (if t184 = (-1) then (some (65533, false)) else (some (wrap32 (wrap64 ((wrap64 ((wrap64 ((wrap64 (hv a * 4096)) + (wrap64 (hv b * 256)))) + (wrap64 (hv c * 16)))) + t184)), true))))))) e4 ?_
  refine ev_const fun k => ?_
  rw [if_neg (by omega), if_neg (by omega), if_neg (by omega), if_neg (by omega), wr (x := hv a * 4096) (by omega) (by omega), wr (x := hv b * 256) (by omega) (by omega), wr (x := hv c * 16) (by omega) (by omega), wr (x := hv a * 4096 + hv b * 256) (by omega) (by omega), wr (x := hv a * 4096 + hv b * 256 + hv c * 16) (by omega) (by omega), wr (x := hv a * 4096 + hv b * 256 + hv c * 16 + hv d) (by omega) (by omega)]
  have : wrap32 (hv a * 4096 + hv b * 256 + hv c * 16 + hv d) = val4 a b c d := by unfold wrap32 val4; omega
  rw [this]
theorem utf16_eq (v : Int) : jsonparser_isUTF16EncodedRune.f v = some (decide (55296 ≤ v ∧ v ≤ 57343)) := by
  unfold jsonparser_isUTF16EncodedRune.f
  split
  · congr 1; rw [Bool.eq_iff_iff]; simp only [decide_eq_true_iff]; omega
  · rw [decide_eq_false (by omega)]
theorem decode_uni {a b c d : Int} {l : List Int} (h : hex4 a b c d) (h1 : isHigh (val4 a b c d) = false) (h2 : isLow (val4 a b c d) = false) :
    Ev (fun k => jsonparser_decodeUnicodeEscape.f k (92 :: 117 :: a :: b :: c :: d :: l)) (val4 a b c d, 6) := by
  unfold isHigh at h1
  unfold isLow at h2
  rw [decide_eq_false_iff_not] at h1 h2
  refine Ev.bind (f := fun k (bt185 : Int × Bool) => (if bt185.2 = true then ((jsonparser_isUTF16EncodedRune.f bt185.1).bind fun t187 => (if t187 = true then (if bt185.1 ≥ 56320 then (some (65533, 6)) else (if ((92 :: 117 :: a :: b :: c :: d :: l).length : Int) < 8 then (jsonparser_decodeUnicodeEscape.j0 k (92 :: 117 :: a :: b :: c :: d :: l) bt185.1 true) else (if 6 < ((92 :: 117 :: a :: b :: c :: d :: l).length : Int) then (if (rd (92 :: 117 :: a :: b :: c :: d :: l) 6) = 92 then (if 7 < ((92 :: 117 :: a :: b :: c :: d :: l).length : Int) then (jsonparser_decodeUnicodeEscape.j0 k (92 :: 117 :: a :: b :: c :: d :: l) bt185.1 ((rd (92 :: 117 :: a :: b :: c :: d :: l) 7) != 117)) else (none)) else (jsonparser_decodeUnicodeEscape.j0 k (92 :: 117 :: a :: b :: c :: d :: l) bt185.1 true)) else (none)))) else (some (bt185.1, 6)))) else (some (65533, (-1))))) (single_ev h) (ev_const fun k => ?_)
  rw [if_pos rfl, utf16_eq, Option.bind_some, decide_eq_false (by omega), if_neg (by decide)]
theorem decode_pair {a b c d e f g i : Int} {l : List Int} (h : hex4 a b c d) (k : hex4 e f g i) (h1 : isHigh (val4 a b c d) = true) (h2 : isLow (val4 e f g i) = true) :
    Ev (fun k => jsonparser_decodeUnicodeEscape.f k (92 :: 117 :: a :: b :: c :: d :: 92 :: 117 :: e :: f :: g :: i :: l)) (65536 + (val4 a b c d - 55296) * 1024 + (val4 e f g i - 56320), 12) := by
  unfold isHigh at h1
  unfold isLow at h2
  rw [decide_eq_true_iff] at h1 h2
  have hl : ((92 :: 117 :: a :: b :: c :: d :: 92 :: 117 :: e :: f :: g :: i :: l).length : Int) = l.length + 12 := by simp; omega
  refine Ev.bind (f := fun k (bt185 : Int × Bool) => (if bt185.2 = true then ((jsonparser_isUTF16EncodedRune.f bt185.1).bind fun t187 => (if t187 = true then (if bt185.1 ≥ 56320 then (some (65533, 6)) else (if ((92 :: 117 :: a :: b :: c :: d :: 92 :: 117 :: e :: f :: g :: i :: l).length : Int) < 8 then (jsonparser_decodeUnicodeEscape.j0 k (92 :: 117 :: a :: b :: c :: d :: 92 :: 117 :: e :: f :: g :: i :: l) bt185.1 true) else (if 6 < ((92 :: 117 :: a :: b :: c :: d :: 92 :: 117 :: e :: f :: g :: i :: l).length : Int) then (if (rd (92 :: 117 :: a :: b :: c :: d :: 92 :: 117 :: e :: f :: g :: i :: l) 6) = 92 then (if 7 < ((92 :: 117 :: a :: b :: c :: d :: 92 :: 117 :: e :: f :: g :: i :: l).length : Int) then (jsonparser_decodeUnicodeEscape.j0 k (92 :: 117 :: a :: b :: c :: d :: 92 :: 117 :: e :: f :: g :: i :: l) bt185.1 ((rd (92 :: 117 :: a :: b :: c :: d :: 92 :: 117 :: e :: f :: g :: i :: l) 7) != 117)) else (none)) else (jsonparser_decodeUnicodeEscape.j0 k (92 :: 117 :: a :: b :: c :: d :: 92 :: 117 :: e :: f :: g :: i :: l) bt185.1 true)) else (none)))) else (some (bt185.1, 6)))) else (some (65533, (-1))))) (single_ev h) ?_
  have s2 := single_ev (x := 92) (y := 117) (l := l) k
  refine Ev.step (f := fun k => (jsonparser_decodeSingleUnicodeEscape.f k (92 :: 117 :: e :: f :: g :: i :: l)).bind fun bt191 => (if bt191.2 = true then (if bt191.1 < 56320 then (some (65533, 6)) else (if bt191.1 > 57343 then (some (65533, 6)) else ((jsonparser_combineUTF16Surrogates.f (val4 a b c d) bt191.1).bind fun t193 => (some (t193, 12))))) else (some (65533, (-1))))) (fun k => ?_) ?_
  · have g6 : rd (92 :: 117 :: a :: b :: c :: d :: 92 :: 117 :: e :: f :: g :: i :: l) 6 = 92 := rfl
    have g7 : rd (92 :: 117 :: a :: b :: c :: d :: 92 :: 117 :: e :: f :: g :: i :: l) 7 = 117 := rfl
    rw [if_pos rfl, utf16_eq, Option.bind_some, decide_eq_true (by omega), if_pos rfl, if_neg (by omega), hl, if_neg (by omega), if_pos (by omega), g6, if_pos rfl, if_pos (by omega), g7, jsonparser_decodeUnicodeEscape.j0, hl, if_neg (by decide), if_pos (by omega)]
    rfl
  refine Ev.bind (f := fun k (bt191 : Int × Bool) => (if bt191.2 = true then (if bt191.1 < 56320 then (some (65533, 6)) else (if bt191.1 > 57343 then (some (65533, 6)) else ((jsonparser_combineUTF16Surrogates.f (val4 a b c d) bt191.1).bind fun t193 => (some (t193, 12))))) else (some (65533, (-1))))) s2 (ev_const fun k => ?_)
  rw [if_pos rfl, if_neg (by omega), if_neg (by omega), jsonparser_combineUTF16Surrogates.f, Option.bind_some]
  congr 2
  unfold wrap32
  omega
theorem unF_ev {l r : List Int} (h : Good l r) : ∀ n, l.length < n → Ev (fun k => unF k n l) r := by
  induction h with
  | nil =>
    intro n hn
    obtain ⟨n, rfl⟩ : ∃ m, n = m + 1 := ⟨n - 1, by omega⟩
    exact ev_const fun k => rfl
  | @char c l r hc _ ih =>
    intro n hn
    obtain ⟨n, rfl⟩ : ∃ m, n = m + 1 := ⟨n - 1, by omega⟩
    refine Ev.congr (fun k => ?_) (Ev.bind (f := fun _ q => some (c :: q)) (ih n (by simpa using hn)) (ev_const fun _ => rfl))
    rw [unF, if_neg hc]
  | @two e l r he _ ih =>
    intro n hn
    obtain ⟨n, rfl⟩ : ∃ m, n = m + 1 := ⟨n - 1, by omega⟩
    have hE : ∀ k, escF k (92 :: e :: l) = some (2, [UN.tb e]) := fun k => by
      unfold escF
      rw [if_pos ⟨rfl, by simp⟩]
      exact if_pos ((short_iff e).1 he)
    refine Ev.congr (fun k => ?_) (Ev.bind (f := fun _ q => some ([UN.tb e] ++ q)) (ih n (by simp at hn; omega)) (ev_const fun _ => rfl))
    rw [unF, if_pos rfl, hE]
    rfl
  | @uni a b c d l r h4 h1 h2 _ ih =>
    intro n hn
    obtain ⟨n, rfl⟩ : ∃ m, n = m + 1 := ⟨n - 1, by omega⟩
    have hr := val4_range h4
    have hE : Ev (fun k => escF k (92 :: 117 :: a :: b :: c :: d :: l)) (6, Lib.encodeRuneZ (val4 a b c d)) := by
      refine Ev.congr (f := fun k => (jsonparser_decodeUnicodeEscape.f k (92 :: 117 :: a :: b :: c :: d :: l)).bind fun x => (if 6 ≤ x.2 ∧ x.2 ≤ (92 :: 117 :: a :: b :: c :: d :: l).length ∧ -2147483648 ≤ x.1 ∧ x.1 ≤ 2147483647 then some (x.2.toNat, Lib.encodeRuneZ x.1) else none)) (fun k => ?_) (Ev.bind (f := fun _ (x : Int × Int) => (if 6 ≤ x.2 ∧ x.2 ≤ (92 :: 117 :: a :: b :: c :: d :: l).length ∧ -2147483648 ≤ x.1 ∧ x.1 ≤ 2147483647 then some (x.2.toNat, Lib.encodeRuneZ x.1) else none)) (decode_uni h4 h1 h2) (ev_const fun _ => ?_))
      · unfold escF
        rw [if_pos ⟨rfl, by simp⟩]
        have g : (92 :: 117 :: a :: b :: c :: d :: l).getD 1 0 = 117 := rfl
        rw [g, if_neg (by decide), if_pos rfl]
      · rw [if_pos ⟨by omega, by simp; omega, by omega, by omega⟩]
        rfl
    refine Ev.congr (fun k => by rw [unF, if_pos rfl]) (Ev.bind (f := fun k (x : Nat × List Int) => (unF k n ((92 :: 117 :: a :: b :: c :: d :: l).drop x.1)).bind fun q => some (x.2 ++ q)) hE (Ev.bind (f := fun _ q => some (Lib.encodeRuneZ (val4 a b c d) ++ q)) (ih n (by simp at hn; omega)) (ev_const fun _ => rfl)))
  | @pair a b c d e f g i l r h4 k4 h1 h2 _ ih =>
    intro n hn
    obtain ⟨n, rfl⟩ : ∃ m, n = m + 1 := ⟨n - 1, by omega⟩
    have hr := val4_range h4
    have kr := val4_range k4
    have hE : Ev (fun k => escF k (92 :: 117 :: a :: b :: c :: d :: 92 :: 117 :: e :: f :: g :: i :: l)) (12, Lib.encodeRuneZ (65536 + (val4 a b c d - 55296) * 1024 + (val4 e f g i - 56320))) := by
      refine Ev.congr (f := fun k => (jsonparser_decodeUnicodeEscape.f k (92 :: 117 :: a :: b :: c :: d :: 92 :: 117 :: e :: f :: g :: i :: l)).bind fun x => (if 6 ≤ x.2 ∧ x.2 ≤ (92 :: 117 :: a :: b :: c :: d :: 92 :: 117 :: e :: f :: g :: i :: l).length ∧ -2147483648 ≤ x.1 ∧ x.1 ≤ 2147483647 then some (x.2.toNat, Lib.encodeRuneZ x.1) else none)) (fun k => ?_) (Ev.bind (f := fun _ (x : Int × Int) => (if 6 ≤ x.2 ∧ x.2 ≤ (92 :: 117 :: a :: b :: c :: d :: 92 :: 117 :: e :: f :: g :: i :: l).length ∧ -2147483648 ≤ x.1 ∧ x.1 ≤ 2147483647 then some (x.2.toNat, Lib.encodeRuneZ x.1) else none)) (decode_pair h4 k4 h1 h2) (ev_const fun _ => ?_))
      · unfold escF
        rw [if_pos ⟨rfl, by simp⟩]
        have g : (92 :: 117 :: a :: b :: c :: d :: 92 :: 117 :: e :: f :: g :: i :: l).getD 1 0 = 117 := rfl
        rw [g, if_neg (by decide), if_pos rfl]
      · rw [if_pos ⟨by omega, by simp; omega, by omega, by omega⟩]
        rfl
    refine Ev.congr (fun k => by rw [unF, if_pos rfl]) (Ev.bind (f := fun k (x : Nat × List Int) => (unF k n ((92 :: 117 :: a :: b :: c :: d :: 92 :: 117 :: e :: f :: g :: i :: l).drop x.1)).bind fun q => some (x.2 ++ q)) hE (Ev.bind (f := fun _ q => some (Lib.encodeRuneZ (65536 + (val4 a b c d - 55296) * 1024 + (val4 e f g i - 56320)) ++ q)) (ih n (by simp at hn; omega)) (ev_const fun _ => rfl)))
/-- Each backslash from i on begins an escape. -/
def Es (s : ByteArray) (i : Nat) : Bool :=
  if h : i < s.size then
    if bt s i = 92 then
      match he : escEnd s ((i : Int) + 1) with
      | some m => Es s m.toNat
      | none => false
    else Es s (i + 1)
  else true
termination_by s.size - i
decreasing_by
  · have := escEnd_le he; omega
  · omega
theorem Es_end {s : ByteArray} {i : Nat} (h : s.size ≤ i) : Es s i = true := by
  rw [Es, dif_neg (by omega)]
theorem Es_on {s : ByteArray} {i : Nat} (h : i < s.size) (hb : bt s i ≠ 92) : Es s i = Es s (i + 1) := by
  rw [Es, dif_pos h, if_neg hb]
theorem Es_esc {s : ByteArray} {i : Nat} {m : Int} (hb : bt s i = 92) (he : escEnd s ((i : Int) + 1) = some m) : Es s i = Es s m.toNat := by
  have h : i < s.size := by have := bt_in (s := s) (i := i) (by omega); omega
  rw [Es, dif_pos h, if_pos hb]
  split
  · rename_i m' hm
    rw [he] at hm
    rw [Option.some.inj hm]
  · rename_i hm
    rw [he] at hm
    cases hm
theorem Es_bad {s : ByteArray} {i : Nat} (hb : bt s i = 92) (he : escEnd s ((i : Int) + 1) = none) : Es s i = false := by
  have h : i < s.size := by have := bt_in (s := s) (i := i) (by omega); omega
  rw [Es, dif_pos h, if_pos hb]
  split
  · rename_i m' hm
    rw [he] at hm
    cases hm
  · rfl
/-! ### the reference -/
/-- An escape \uXXXX stands at i. -/
def isU (s : ByteArray) (i : Int) : Bool := bt s i == 92 && (bt s (i + 1) == 117 && hexes s 4 (i + 2))
def uval (s : ByteArray) (i : Int) : Int := val4 (bt s (i + 2)) (bt s (i + 3)) (bt s (i + 4)) (bt s (i + 5))
theorem isU_iff {s : ByteArray} {i : Int} : isU s i = true ↔ bt s i = 92 ∧ bt s (i + 1) = 117 ∧ hexes s 4 (i + 2) = true := by
  unfold isU; simp only [Bool.and_eq_true, beq_iff_eq]
theorem hexes_hex4 {s : ByteArray} {i : Int} (h : hexes s 4 (i + 2) = true) : hex4 (bt s (i + 2)) (bt s (i + 3)) (bt s (i + 4)) (bt s (i + 5)) := by
  simp only [hexes, Bool.and_true, Bool.and_eq_true] at h
  obtain ⟨h1, h2, h3, h4⟩ := h
  rw [show i + 2 + 1 = i + 3 by omega] at h2
  rw [show i + 2 + 1 + 1 = i + 4 by omega] at h3
  rw [show i + 2 + 1 + 1 + 1 = i + 5 by omega] at h4
  exact ⟨h1, h2, h3, h4⟩
theorem isU_in {s : ByteArray} {i : Int} (h : isU s i = true) : i + 6 ≤ s.size := by
  have := hexes_in (isU_iff.1 h).2.2
  omega
def fold (s : ByteArray) : Nat → Int → Int → Int
  | 0, _, n => n
  | m + 1, i, n => fold s m (i + 1) (n * 16 + hv (bt s i))
def bnd : Nat → Int
  | 0 => 65535
  | 1 => 4095
  | 2 => 255
  | 3 => 15
  | _ => 0
theorem bnd_step : ∀ m : Nat, m ≤ 3 → 0 ≤ bnd (m + 1) ∧ bnd (m + 1) ≤ 4095 ∧ bnd (m + 1) * 16 + 15 ≤ bnd m
  | 0, _ => by decide
  | 1, _ => by decide
  | 2, _ => by decide
  | 3, _ => by decide
  | _ + 4, h => by omega
theorem unit_l0 {s : ByteArray} (hs : s.size ≤ 200000) {i : Int} (h0 : 0 ≤ i) (h6 : i + 6 ≤ s.size) : ∀ (m : Nat) (j n : Int), m ≤ 4 → j + m = i + 6 → i ≤ j → 0 ≤ n → n ≤ bnd m →
    (hexes s m j = true → Ev (fun k => spec_unit.l0 k s i n j) (fold s m j n, true)) ∧ (hexes s m j = false → Ev (fun k => spec_unit.l0 k s i n j) (0, false))
  | 0, j, n, hm, hj, hij, hn0, hn1 => by
    have w : wrap64 (i + 6) = i + 6 := wr (by omega) (by omega)
    refine ⟨fun _ => ev_one fun k => ?_, fun h => by simp [hexes] at h⟩
    rw [spec_unit.l0, w, if_neg (by omega)]
    rfl
  | m + 1, j, n, hm, hj, hij, hn0, hn1 => by
    have w : wrap64 (i + 6) = i + 6 := wr (by omega) (by omega)
    have w1 : wrap64 (j + 1) = j + 1 := wr (by omega) (by omega)
    obtain ⟨b0, b1, b2⟩ := bnd_step m (by omega)
    have w2 : wrap64 (n * 16) = n * 16 := wr (by omega) (by omega)
    cases hc : hex (bt s j) with
    | false =>
      obtain ⟨v, hv'⟩ := hexDigit_ev (bt s j) (bt_lo s j) (bt_hi s j)
      rw [hc] at hv'
      refine ⟨fun h => by simp [hexes, hc] at h, fun _ => Ev.step (f := fun k => (spec_hexDigit.f k (bt s j)).bind fun b => (if b.2 = true then (spec_unit.l0 k s i (wrap64 ((wrap64 (n * 16)) + b.1)) (wrap64 (j + 1))) else (some (0, false)))) (fun k => ?_) (Ev.bind (f := fun k (b : Int × Bool) => (if b.2 = true then (spec_unit.l0 k s i (wrap64 ((wrap64 (n * 16)) + b.1)) (wrap64 (j + 1))) else (some (0, false)))) hv' (ev_const fun _ => rfl))⟩
      rw [spec_unit.l0, w, if_pos (by omega), if_pos (by omega), if_pos (by omega)]
    | true =>
      have hr := hv_range hc
      have w3 : wrap64 (n * 16 + hv (bt s j)) = n * 16 + hv (bt s j) := wr (by omega) (by omega)
      have ih := unit_l0 hs h0 h6 m (j + 1) (n * 16 + hv (bt s j)) (by omega) (by omega) (by omega) (by omega) (by omega)
      have go : ∀ R, Ev (fun k => spec_unit.l0 k s i (n * 16 + hv (bt s j)) (j + 1)) R → Ev (fun k => spec_unit.l0 k s i n j) R := fun R hR =>
        Ev.step (f := fun k => (spec_hexDigit.f k (bt s j)).bind fun b => (if b.2 = true then (spec_unit.l0 k s i (wrap64 ((wrap64 (n * 16)) + b.1)) (wrap64 (j + 1))) else (some (0, false)))) (fun k => by rw [spec_unit.l0, w, if_pos (by omega), if_pos (by omega), if_pos (by omega)])
          (Ev.bind (f := fun k (b : Int × Bool) => (if b.2 = true then (spec_unit.l0 k s i (wrap64 ((wrap64 (n * 16)) + b.1)) (wrap64 (j + 1))) else (some (0, false)))) (hexDigit_val hc) (by simp only [if_true, w1, w2, w3]; exact hR))
      rw [hexes, hc, Bool.true_and]
      exact ⟨fun h => go _ (ih.1 h), fun h => go _ (ih.2 h)⟩
theorem fold_val {s : ByteArray} {i : Int} : fold s 4 (i + 2) 0 = uval s i := by
  unfold uval val4
  simp only [fold]
  rw [show i + 2 + 1 = i + 3 by omega, show i + 3 + 1 = i + 4 by omega, show i + 4 + 1 = i + 5 by omega]
  omega
theorem unit_f {s : ByteArray} (hs : s.size ≤ 200000) {i : Int} (h0 : 0 ≤ i) (hi : i ≤ 300000) : (isU s i = true → Ev (fun k => spec_unit.f k s i) (uval s i, true)) ∧ (isU s i = false → Ev (fun k => spec_unit.f k s i) (0, false)) := by
  have w : wrap64 ((s.size : Int) - i) = (s.size : Int) - i := wr (by omega) (by omega)
  have w1 : wrap64 (i + 1) = i + 1 := wr (by omega) (by omega)
  have w2 : wrap64 (i + 2) = i + 2 := wr (by omega) (by omega)
  by_cases h6 : i + 6 ≤ s.size
  · have hl := unit_l0 hs h0 h6 4 (i + 2) 0 (by omega) (by omega) (by omega) (by omega) (by decide)
    rw [fold_val] at hl
    by_cases h92 : bt s i = 92
    · have st : ∀ k, spec_unit.f k s i = spec_unit.j0 k s i (bt s (i + 1) != 117) := fun k => by
        rw [spec_unit.f, w, if_neg (by omega), if_pos h0, if_pos (by omega), if_pos h92, w1, if_pos (by omega), if_pos (by omega)]
      by_cases h117 : bt s (i + 1) = 117
      · have e : (bt s (i + 1) != 117) = false := by rw [h117]; rfl
        have st2 : ∀ k, spec_unit.j0 (k + 1) s i (bt s (i + 1) != 117) = spec_unit.l0 k s i 0 (i + 2) := fun k => by
          rw [spec_unit.j0, e, if_neg (by decide), w2]
        refine ⟨fun h => Ev.congr st (Ev.step st2 (hl.1 (isU_iff.1 h).2.2)), fun h => Ev.congr st (Ev.step st2 (hl.2 ?_))⟩
        cases hx : hexes s 4 (i + 2) with
        | false => rfl
        | true => rw [isU_iff.2 ⟨h92, h117, hx⟩] at h; cases h
      · have e : (bt s (i + 1) != 117) = true := by simpa using h117
        refine ⟨fun h => absurd (isU_iff.1 h).2.1 h117, fun _ => Ev.congr st (ev_one fun k => ?_)⟩
        rw [e, spec_unit.j0, if_pos rfl]
    · refine ⟨fun h => absurd (isU_iff.1 h).1 h92, fun _ => Ev.congr (f := fun k => spec_unit.j0 k s i true) (fun k => ?_) (ev_one fun k => ?_)⟩
      · rw [spec_unit.f, w, if_neg (by omega), if_pos h0, if_pos (by omega), if_neg h92]
      · rw [spec_unit.j0, if_pos rfl]
  · refine ⟨fun h => absurd (isU_in h) h6, fun _ => Ev.congr (f := fun k => spec_unit.j0 k s i true) (fun k => ?_) (ev_one fun k => ?_)⟩
    · rw [spec_unit.f, w, if_pos (by omega)]
    · rw [spec_unit.j0, if_pos rfl]
theorem Es_u {s : ByteArray} {i : Nat} (h : isU s i = true) : Es s i = Es s (i + 6) := by
  obtain ⟨h1, h2, h3⟩ := isU_iff.1 h
  have he : escEnd s ((i : Int) + 1) = some ((i : Int) + 1 + 5) := by
    unfold escEnd
    rw [h2, if_neg (by decide), if_pos rfl, show (i : Int) + 1 + 1 = (i : Int) + 2 by omega, h3]; rfl
  rw [Es_esc h1 he]
  congr 1
/-- A backslash that begins an escape, but no \u. -/
theorem Es_two {s : ByteArray} {i : Nat} (h92 : bt s (i : Int) = 92) (hu : isU s i = false) (hE : Es s i = true) : short (bt s ((i : Int) + 1)) = true ∧ i + 2 ≤ s.size ∧ Es s (i + 2) = true := by
  cases he : escEnd s ((i : Int) + 1) with
  | none => rw [Es_bad h92 he] at hE; cases hE
  | some m =>
    have hm := escEnd_le he
    rw [Es_esc h92 he] at hE
    unfold escEnd at he
    by_cases hs : short (bt s ((i : Int) + 1)) = true
    · rw [if_pos hs] at he
      obtain rfl := Option.some.inj he
      rw [show ((i : Int) + 1 + 1).toNat = i + 2 by omega] at hE
      exact ⟨hs, by omega, hE⟩
    · rw [if_neg hs] at he
      by_cases h117 : bt s ((i : Int) + 1) = 117
      · rw [if_pos h117] at he
        cases hx : hexes s 4 ((i : Int) + 1 + 1) with
        | false => rw [hx] at he; cases he
        | true =>
          rw [show (i : Int) + 1 + 1 = (i : Int) + 2 by omega] at hx
          rw [isU_iff.2 ⟨h92, h117, hx⟩] at hu
          cases hu
      · rw [if_neg h117] at he; cases he
theorem drop_c {s : ByteArray} {i : Nat} (h : i < s.size) : (bytesOf s).drop i = bt s (i : Int) :: (bytesOf s).drop (i + 1) := by
  have hl : i < (bytesOf s).length := by rw [bytesOf_length]; exact h
  rw [List.drop_eq_getElem_cons hl, bt_nat, List.getD_eq_getElem?_getD, List.getElem?_eq_getElem hl]
  rfl
theorem drop_u {s : ByteArray} {i : Nat} (h : isU s i = true) : (bytesOf s).drop i = 92 :: 117 :: bt s ((i : Int) + 2) :: bt s ((i : Int) + 3) :: bt s ((i : Int) + 4) :: bt s ((i : Int) + 5) :: (bytesOf s).drop (i + 6) := by
  have hi := isU_in h
  obtain ⟨h1, h2, _⟩ := isU_iff.1 h
  have c := fun j (hj : i + j < s.size) => drop_c hj
  have c1 := c 1 (by omega)
  have c2 := c 2 (by omega)
  have c3 := c 3 (by omega)
  have c4 := c 4 (by omega)
  have c5 := c 5 (by omega)
  rw [drop_c (by omega), h1, c1, show i + 1 + 1 = i + 2 by omega, c2, show i + 2 + 1 = i + 3 by omega, c3, show i + 3 + 1 = i + 4 by omega, c4, show i + 4 + 1 = i + 5 by omega, c5, show i + 5 + 1 = i + 6 by omega]
  rw [show ((i + 1 : Nat) : Int) = (i : Int) + 1 by omega, show ((i + 2 : Nat) : Int) = (i : Int) + 2 by omega, show ((i + 3 : Nat) : Int) = (i : Int) + 3 by omega, show ((i + 4 : Nat) : Int) = (i : Int) + 4 by omega, show ((i + 5 : Nat) : Int) = (i : Int) + 5 by omega, h2]
theorem hex4_u {s : ByteArray} {i : Int} (h : isU s i = true) : hex4 (bt s (i + 2)) (bt s (i + 3)) (bt s (i + 4)) (bt s (i + 5)) := hexes_hex4 (isU_iff.1 h).2.2
theorem paired_l0 {s : ByteArray} (hs : s.size ≤ 200000) : ∀ (d i : Nat), s.size - i ≤ d → i ≤ s.size + 12 → ∃ b, Ev (fun k => spec_Paired.l0 k s i) b ∧ (b = true → Es s i = true → ∃ r, Good ((bytesOf s).drop i) r)
  | 0, i, hd, hi => by
    refine ⟨true, ev_one fun k => by rw [spec_Paired.l0, if_neg (by omega)], fun _ _ => ⟨[], ?_⟩⟩
    rw [List.drop_of_length_le (by rw [bytesOf_length]; omega)]
    exact .nil
  | d + 1, i, hd, hi => by
    by_cases hlt : i < s.size
    · have w1 : wrap64 ((i : Int) + 1) = ((i + 1 : Nat) : Int) := by rw [wr (by omega) (by omega)]; omega
      have w2 : wrap64 ((i : Int) + 2) = ((i + 2 : Nat) : Int) := by rw [wr (by omega) (by omega)]; omega
      have w6 : wrap64 ((i : Int) + 6) = ((i + 6 : Nat) : Int) := by rw [wr (by omega) (by omega)]; omega
      have w12 : wrap64 ((i : Int) + 12) = ((i + 12 : Nat) : Int) := by rw [wr (by omega) (by omega)]; omega
      by_cases h92 : bt s (i : Int) = 92
      · have st : ∀ k, spec_Paired.l0 (k + 1) s i = (spec_unit.f k s i).bind fun bt103 => (if bt103.2 = true then ((spec_high.f bt103.1).bind fun t105 => (if t105 = true then ((spec_unit.f k s (wrap64 ((i : Int) + 6))).bind fun bt106 => (if bt106.2 = true then ((spec_low.f bt106.1).bind fun t108 => (if t108 = true then (spec_Paired.l0 k s (wrap64 ((i : Int) + 12))) else (some false))) else (some false))) else ((spec_low.f bt103.1).bind fun t109 => (if t109 = true then (some false) else (spec_Paired.l0 k s (wrap64 ((i : Int) + 6))))))) else (spec_Paired.l0 k s (wrap64 ((i : Int) + 2)))) := fun k => by
          rw [spec_Paired.l0, if_pos (by omega), if_pos (by omega), if_pos h92]
        have hu := unit_f hs (i := (i : Int)) (by omega) (by omega)
        cases hU : isU s i with
        | false =>
          obtain ⟨b, hb, hG⟩ := paired_l0 hs d (i + 2) (by omega) (by omega)
          refine ⟨b, Ev.step st (Ev.bind (f := fun k (bt103 : Int × Bool) => (if bt103.2 = true then ((spec_high.f bt103.1).bind fun t105 => (if t105 = true then ((spec_unit.f k s (wrap64 ((i : Int) + 6))).bind fun bt106 => (if bt106.2 = true then ((spec_low.f bt106.1).bind fun t108 => (if t108 = true then (spec_Paired.l0 k s (wrap64 ((i : Int) + 12))) else (some false))) else (some false))) else ((spec_low.f bt103.1).bind fun t109 => (if t109 = true then (some false) else (spec_Paired.l0 k s (wrap64 ((i : Int) + 6))))))) else (spec_Paired.l0 k s (wrap64 ((i : Int) + 2))))) (hu.2 hU) (Ev.congr (fun k => ?_) hb)), fun hbt hE => ?_⟩
          · rw [if_neg (by decide), w2]
          · obtain ⟨hsh, hin, hE2⟩ := Es_two h92 hU hE
            obtain ⟨r, hr⟩ := hG hbt hE2
            refine ⟨UN.tb (bt s ((i : Int) + 1)) :: r, ?_⟩
            rw [drop_c hlt, h92, drop_c (by omega), show ((i + 1 : Nat) : Int) = (i : Int) + 1 by omega]
            exact .two hsh hr
        | true =>
          have hin := isU_in hU
          have hE6 := Es_u hU
          have e0 := hu.1 hU
          cases hH : isHigh (uval s i) with
          | true =>
            have hu2 := unit_f hs (i := ((i + 6 : Nat) : Int)) (by omega) (by omega)
            cases hU2 : isU s ((i + 6 : Nat) : Int) with
            | false =>
              refine ⟨false, Ev.step st (Ev.bind (f := fun k (bt103 : Int × Bool) => (if bt103.2 = true then ((spec_high.f bt103.1).bind fun t105 => (if t105 = true then ((spec_unit.f k s (wrap64 ((i : Int) + 6))).bind fun bt106 => (if bt106.2 = true then ((spec_low.f bt106.1).bind fun t108 => (if t108 = true then (spec_Paired.l0 k s (wrap64 ((i : Int) + 12))) else (some false))) else (some false))) else ((spec_low.f bt103.1).bind fun t109 => (if t109 = true then (some false) else (spec_Paired.l0 k s (wrap64 ((i : Int) + 6))))))) else (spec_Paired.l0 k s (wrap64 ((i : Int) + 2))))) e0 (Ev.congr (fun k => ?_) (Ev.bind (f := fun k (bt106 : Int × Bool) => (if bt106.2 = true then ((spec_low.f bt106.1).bind fun t108 => (if t108 = true then (spec_Paired.l0 k s (wrap64 ((i : Int) + 12))) else (some false))) else (some false))) (hu2.2 hU2) (ev_const fun _ => rfl)))), fun h => by cases h⟩
              rw [if_pos rfl, high_eq, hH, Option.bind_some, if_pos rfl, w6]
            | true =>
              have e2 := hu2.1 hU2
              cases hL : isLow (uval s ((i + 6 : Nat) : Int)) with
              | false =>
                refine ⟨false, Ev.step st (Ev.bind (f := fun k (bt103 : Int × Bool) => (if bt103.2 = true then ((spec_high.f bt103.1).bind fun t105 => (if t105 = true then ((spec_unit.f k s (wrap64 ((i : Int) + 6))).bind fun bt106 => (if bt106.2 = true then ((spec_low.f bt106.1).bind fun t108 => (if t108 = true then (spec_Paired.l0 k s (wrap64 ((i : Int) + 12))) else (some false))) else (some false))) else ((spec_low.f bt103.1).bind fun t109 => (if t109 = true then (some false) else (spec_Paired.l0 k s (wrap64 ((i : Int) + 6))))))) else (spec_Paired.l0 k s (wrap64 ((i : Int) + 2))))) e0 (Ev.congr (fun k => ?_) (Ev.bind (f := fun k (bt106 : Int × Bool) => (if bt106.2 = true then ((spec_low.f bt106.1).bind fun t108 => (if t108 = true then (spec_Paired.l0 k s (wrap64 ((i : Int) + 12))) else (some false))) else (some false))) e2 (ev_const fun _ => ?_)))), fun h => by cases h⟩
                · rw [if_pos rfl, high_eq, hH, Option.bind_some, if_pos rfl, w6]
                · rw [if_pos rfl, low_eq, hL]; rfl
              | true =>
                have hin2 := isU_in hU2
                obtain ⟨b, hb, hG⟩ := paired_l0 hs d (i + 12) (by omega) (by omega)
                refine ⟨b, Ev.step st (Ev.bind (f := fun k (bt103 : Int × Bool) => (if bt103.2 = true then ((spec_high.f bt103.1).bind fun t105 => (if t105 = true then ((spec_unit.f k s (wrap64 ((i : Int) + 6))).bind fun bt106 => (if bt106.2 = true then ((spec_low.f bt106.1).bind fun t108 => (if t108 = true then (spec_Paired.l0 k s (wrap64 ((i : Int) + 12))) else (some false))) else (some false))) else ((spec_low.f bt103.1).bind fun t109 => (if t109 = true then (some false) else (spec_Paired.l0 k s (wrap64 ((i : Int) + 6))))))) else (spec_Paired.l0 k s (wrap64 ((i : Int) + 2))))) e0 (Ev.congr (fun k => ?_) (Ev.bind (f := fun k (bt106 : Int × Bool) => (if bt106.2 = true then ((spec_low.f bt106.1).bind fun t108 => (if t108 = true then (spec_Paired.l0 k s (wrap64 ((i : Int) + 12))) else (some false))) else (some false))) e2 (Ev.congr (fun k => ?_) hb)))), fun hbt hE => ?_⟩
                · rw [if_pos rfl, high_eq, hH, Option.bind_some, if_pos rfl, w6]
                · rw [if_pos rfl, low_eq, hL, Option.bind_some, if_pos rfl, w12]
                · obtain ⟨r, hr⟩ := hG hbt (by rw [hE6, Es_u hU2] at hE; exact hE)
                  refine ⟨Lib.encodeRuneZ (65536 + (uval s i - 55296) * 1024 + (uval s ((i + 6 : Nat) : Int) - 56320)) ++ r, ?_⟩
                  rw [drop_u hU, drop_u hU2]
                  exact .pair (hex4_u hU) (hex4_u hU2) hH hL hr
          | false =>
            cases hL : isLow (uval s i) with
            | true =>
              refine ⟨false, Ev.step st (Ev.bind (f := fun k (bt103 : Int × Bool) => (if bt103.2 = true then ((spec_high.f bt103.1).bind fun t105 => (if t105 = true then ((spec_unit.f k s (wrap64 ((i : Int) + 6))).bind fun bt106 => (if bt106.2 = true then ((spec_low.f bt106.1).bind fun t108 => (if t108 = true then (spec_Paired.l0 k s (wrap64 ((i : Int) + 12))) else (some false))) else (some false))) else ((spec_low.f bt103.1).bind fun t109 => (if t109 = true then (some false) else (spec_Paired.l0 k s (wrap64 ((i : Int) + 6))))))) else (spec_Paired.l0 k s (wrap64 ((i : Int) + 2))))) e0 (ev_const fun k => ?_)), fun h => by cases h⟩
              rw [if_pos rfl, high_eq, hH, Option.bind_some, if_neg (by decide), low_eq, hL]; rfl
            | false =>
              obtain ⟨b, hb, hG⟩ := paired_l0 hs d (i + 6) (by omega) (by omega)
              refine ⟨b, Ev.step st (Ev.bind (f := fun k (bt103 : Int × Bool) => (if bt103.2 = true then ((spec_high.f bt103.1).bind fun t105 => (if t105 = true then ((spec_unit.f k s (wrap64 ((i : Int) + 6))).bind fun bt106 => (if bt106.2 = true then ((spec_low.f bt106.1).bind fun t108 => (if t108 = true then (spec_Paired.l0 k s (wrap64 ((i : Int) + 12))) else (some false))) else (some false))) else ((spec_low.f bt103.1).bind fun t109 => (if t109 = true then (some false) else (spec_Paired.l0 k s (wrap64 ((i : Int) + 6))))))) else (spec_Paired.l0 k s (wrap64 ((i : Int) + 2))))) e0 (Ev.congr (fun k => ?_) hb)), fun hbt hE => ?_⟩
              · rw [if_pos rfl, high_eq, hH, Option.bind_some, if_neg (by decide), low_eq, hL, Option.bind_some, if_neg (by decide), w6]
              · obtain ⟨r, hr⟩ := hG hbt (by rw [hE6] at hE; exact hE)
                refine ⟨Lib.encodeRuneZ (uval s i) ++ r, ?_⟩
                rw [drop_u hU]
                exact .uni (hex4_u hU) hH hL hr
      · obtain ⟨b, hb, hG⟩ := paired_l0 hs d (i + 1) (by omega) (by omega)
        refine ⟨b, Ev.step (fun k => ?_) hb, fun hbt hE => ?_⟩
        · rw [spec_Paired.l0, if_pos (by omega), if_pos (by omega), if_neg h92, w1]
        · rw [Es_on hlt h92] at hE
          obtain ⟨r, hr⟩ := hG hbt hE
          refine ⟨bt s (i : Int) :: r, ?_⟩
          rw [drop_c hlt]
          exact .char h92 hr
    · refine ⟨true, ev_one fun k => by rw [spec_Paired.l0, if_neg (by omega)], fun _ _ => ⟨[], ?_⟩⟩
      rw [List.drop_of_length_le (by rw [bytesOf_length]; omega)]
      exact .nil
/-! ### what the reference gives for a text is not asked; that it gives something is -/
theorem app_ev {acc : List Int} (n : Int) (h : acc.length ≤ 10000000) : ∃ out, Ev (fun k => spec_appendUTF8.f k acc n) out ∧ out.length ≤ acc.length + 4 := by
  by_cases h1 : n < 128
  · refine ⟨acc ++ [n % 256], ev_const fun k => ?_, by simp⟩
    rw [spec_appendUTF8.f, if_pos h1, if_pos (by omega)]
  by_cases h2 : n < 2048
  · refine ⟨acc ++ [(wrap64 (192 + (wrap64 (Int.tdiv n 64)))) % 256, (wrap64 (128 + (Int.tmod n 64))) % 256], ev_const fun k => ?_, by simp⟩
    rw [spec_appendUTF8.f, if_neg h1, if_pos h2, Option.bind_some, if_pos (by simp; omega)]
  have j0 : ∀ b : Bool, ∃ out, Ev (fun k => spec_appendUTF8.j0 k acc n b) out ∧ out.length ≤ acc.length + 4 := fun b => by
    cases b with
    | true =>
      refine ⟨acc ++ [239, 191, 189], ev_one fun k => ?_, by simp⟩
      rw [spec_appendUTF8.j0, if_pos rfl, Option.bind_some, if_pos (by simp; omega)]
    | false =>
      by_cases h3 : n < 65536
      · refine ⟨acc ++ [(wrap64 (224 + (wrap64 (Int.tdiv n 4096)))) % 256, (wrap64 (128 + (Int.tmod (wrap64 (Int.tdiv n 64)) 64))) % 256, (wrap64 (128 + (Int.tmod n 64))) % 256], ev_one fun k => ?_, by simp⟩
        rw [spec_appendUTF8.j0, if_neg (by decide), if_pos h3, Option.bind_some, if_pos (by simp; omega)]
      · refine ⟨acc ++ [(wrap64 (240 + (wrap64 (Int.tdiv n 262144)))) % 256, (wrap64 (128 + (Int.tmod (wrap64 (Int.tdiv n 4096)) 64))) % 256, (wrap64 (128 + (Int.tmod (wrap64 (Int.tdiv n 64)) 64))) % 256, (wrap64 (128 + (Int.tmod n 64))) % 256], ev_one fun k => ?_, by simp⟩
        rw [spec_appendUTF8.j0, if_neg (by decide), if_neg h3, Option.bind_some, if_pos (by simp; omega)]
  cases hH : isHigh n with
  | true =>
    obtain ⟨out, ho, hl⟩ := j0 true
    refine ⟨out, Ev.congr (fun k => ?_) ho, hl⟩
    rw [spec_appendUTF8.f, if_neg h1, if_neg h2, high_eq, hH, Option.bind_some, if_pos rfl]
  | false =>
    obtain ⟨out, ho, hl⟩ := j0 (isLow n)
    refine ⟨out, Ev.congr (fun k => ?_) ho, hl⟩
    rw [spec_appendUTF8.f, if_neg h1, if_neg h2, high_eq, hH, Option.bind_some, if_neg (by decide), low_eq, Option.bind_some]
theorem short_some (c : Int) : ∃ x, spec_short.f c = some x := by
  unfold spec_short.f
  repeat' split
  all_goals exact ⟨_, rfl⟩
theorem unquote_l0 {s : ByteArray} (hs : s.size ≤ 200000) : ∀ (d i : Nat) (acc : List Int), s.size - i ≤ d → i ≤ s.size → acc.length + 4 * (s.size - i) ≤ 1000000 → Es s i = true → ∃ out, Ev (fun k => spec_Unquote.l0 k acc s i) out
  | 0, i, acc, hd, hi, hl, hE => ⟨strOfNums acc, ev_one fun k => by rw [spec_Unquote.l0, if_neg (by omega)]⟩
  | d + 1, i, acc, hd, hi, hl, hE => by
    by_cases hlt : i < s.size
    · have w1 : wrap64 ((i : Int) + 1) = ((i + 1 : Nat) : Int) := by rw [wr (by omega) (by omega)]; omega
      have w2 : wrap64 ((i : Int) + 2) = ((i + 2 : Nat) : Int) := by rw [wr (by omega) (by omega)]; omega
      have w6 : wrap64 ((i : Int) + 6) = ((i + 6 : Nat) : Int) := by rw [wr (by omega) (by omega)]; omega
      have w66 : wrap64 (((i + 6 : Nat) : Int) + 6) = ((i + 12 : Nat) : Int) := by rw [wr (by omega) (by omega)]; omega
      by_cases h92 : bt s (i : Int) = 92
      · have hu := unit_f hs (i := (i : Int)) (by omega) (by omega)
        cases hU : isU s i with
        | false =>
          obtain ⟨hsh, hin, hE2⟩ := Es_two h92 hU hE
          obtain ⟨x, hx⟩ := short_some (bt s ((i + 1 : Nat) : Int))
          obtain ⟨out, k1, h1⟩ := unquote_l0 hs d (i + 2) (acc ++ [x]) (by omega) (by omega) (by rw [List.length_append, List.length_singleton]; omega) hE2
          obtain ⟨k0, h0⟩ := hu.2 hU
          refine ⟨out, k0 + k1 + 1, fun k hk => ?_⟩
          obtain ⟨k, rfl⟩ : ∃ m, k = m + 1 := ⟨k - 1, by omega⟩
          have h0' := h0 k (by omega)
          have h1' := h1 k (by omega)
          dsimp only at h0' h1' ⊢
          rw [spec_Unquote.l0, if_pos (by omega), if_pos (by omega), if_pos h92, h0', Option.bind_some, if_neg (by decide), w1, if_pos (by omega), if_pos (by omega), hx, Option.bind_some, if_pos (by omega), w2]
          exact h1'
        | true =>
          have hin := isU_in hU
          have hE6 : Es s (i + 6) = true := by rw [← Es_u hU]; exact hE
          obtain ⟨k0, h0⟩ := hu.1 hU
          have hu2 := unit_f hs (i := ((i + 6 : Nat) : Int)) (by omega) (by omega)
          obtain ⟨o6, ⟨k6, h6⟩, l6⟩ := app_ev (acc := acc) (uval s i) (by omega)
          obtain ⟨out, k1, h1⟩ := unquote_l0 hs d (i + 6) o6 (by omega) (by omega) (by omega) hE6
          cases hU2 : isU s ((i + 6 : Nat) : Int) with
          | false =>
            obtain ⟨k2, h2⟩ := hu2.2 hU2
            refine ⟨out, k0 + k1 + k2 + k6 + 1, fun k hk => ?_⟩
            obtain ⟨k, rfl⟩ : ∃ m, k = m + 1 := ⟨k - 1, by omega⟩
            have h0' := h0 k (by omega)
            have h1' := h1 k (by omega)
            have h2' := h2 k (by omega)
            have h6' := h6 k (by omega)
            dsimp only at h0' h1' h2' h6' ⊢
            rw [spec_Unquote.l0, if_pos (by omega), if_pos (by omega), if_pos h92, h0', Option.bind_some, if_pos rfl, w6, h2', Option.bind_some, if_neg (by decide), h6', Option.bind_some]
            exact h1'
          | true =>
            have hin2 := isU_in hU2
            obtain ⟨k2, h2⟩ := hu2.1 hU2
            have hE12 : Es s (i + 12) = true := by rw [show i + 12 = i + 6 + 6 by omega, ← Es_u hU2]; exact hE6
            obtain ⟨oo, ⟨k7, h7⟩, l7⟩ := app_ev (acc := acc) (wrap64 ((wrap64 (65536 + (wrap64 ((wrap64 (uval s i - 55296)) * 1024)))) + (wrap64 (uval s ((i + 6 : Nat) : Int) - 56320)))) (by omega)
            obtain ⟨out2, k3, h3⟩ := unquote_l0 hs d (i + 12) oo (by omega) (by omega) (by omega) hE12
            cases hH : isHigh (uval s i) with
            | false =>
              refine ⟨out, k0 + k1 + k2 + k6 + 1, fun k hk => ?_⟩
              obtain ⟨k, rfl⟩ : ∃ m, k = m + 1 := ⟨k - 1, by omega⟩
              have h0' := h0 k (by omega)
              have h1' := h1 k (by omega)
              have h2' := h2 k (by omega)
              have h6' := h6 k (by omega)
              dsimp only at h0' h1' h2' h6' ⊢
              rw [spec_Unquote.l0, if_pos (by omega), if_pos (by omega), if_pos h92, h0', Option.bind_some, if_pos rfl, w6, h2', Option.bind_some, if_pos rfl, high_eq, hH, Option.bind_some, if_neg (by decide), h6', Option.bind_some]
              exact h1'
            | true =>
              cases hL : isLow (uval s ((i + 6 : Nat) : Int)) with
              | false =>
                refine ⟨out, k0 + k1 + k2 + k6 + 1, fun k hk => ?_⟩
                obtain ⟨k, rfl⟩ : ∃ m, k = m + 1 := ⟨k - 1, by omega⟩
                have h0' := h0 k (by omega)
                have h1' := h1 k (by omega)
                have h2' := h2 k (by omega)
                have h6' := h6 k (by omega)
                dsimp only at h0' h1' h2' h6' ⊢
                rw [spec_Unquote.l0, if_pos (by omega), if_pos (by omega), if_pos h92, h0', Option.bind_some, if_pos rfl, w6, h2', Option.bind_some, if_pos rfl, high_eq, hH, Option.bind_some, if_pos rfl, low_eq, hL, Option.bind_some, if_neg (by decide), h6', Option.bind_some]
                exact h1'
              | true =>
                refine ⟨out2, k0 + k3 + k2 + k7 + 1, fun k hk => ?_⟩
                obtain ⟨k, rfl⟩ : ∃ m, k = m + 1 := ⟨k - 1, by omega⟩
                have h0' := h0 k (by omega)
                have h3' := h3 k (by omega)
                have h2' := h2 k (by omega)
                have h7' := h7 k (by omega)
                dsimp only at h0' h3' h2' h7' ⊢
                rw [spec_Unquote.l0, if_pos (by omega), if_pos (by omega), if_pos h92, h0', Option.bind_some, if_pos rfl, w6, h2', Option.bind_some, if_pos rfl, high_eq, hH, Option.bind_some, if_pos rfl, low_eq, hL, Option.bind_some, if_pos rfl, h7', Option.bind_some, w66]
                exact h3'
      · obtain ⟨out, k1, h1⟩ := unquote_l0 hs d (i + 1) (acc ++ [bt s (i : Int)]) (by omega) (by omega) (by rw [List.length_append, List.length_singleton]; omega) (by rw [Es_on hlt h92] at hE; exact hE)
        refine ⟨out, k1 + 1, fun k hk => ?_⟩
        obtain ⟨k, rfl⟩ : ∃ m, k = m + 1 := ⟨k - 1, by omega⟩
        have h1' := h1 k (by omega)
        dsimp only at h1' ⊢
        rw [spec_Unquote.l0, if_pos (by omega), if_pos (by omega), if_neg h92, if_pos (by omega), w1]
        exact h1'
    · exact ⟨strOfNums acc, ev_one fun k => by rw [spec_Unquote.l0, if_neg (by omega)]⟩
theorem quoted_bytes (s : ByteArray) : bytesOf (((⟨#[34]⟩ : ByteArray) ++ s) ++ (⟨#[34]⟩ : ByteArray)) = 34 :: (bytesOf s ++ [34]) := by
  rw [bytesOf_append, bytesOf_append]; rfl
theorem unquote_f {s : ByteArray} (hs : s.size ≤ 200000) (hE : Es s 0 = true) : ∃ out, Ev (fun k => spec_Unquote.f k (((⟨#[34]⟩ : ByteArray) ++ s) ++ (⟨#[34]⟩ : ByteArray))) out := by
  have hz : (((⟨#[34]⟩ : ByteArray) ++ s) ++ (⟨#[34]⟩ : ByteArray)).size = s.size + 2 := by
    rw [size_of (quoted_bytes s), List.length_cons, List.length_append, bytesOf_length]; rfl
  have hx : (((⟨#[34]⟩ : ByteArray) ++ s) ++ (⟨#[34]⟩ : ByteArray)).extract 1 (s.size + 1) = s := by
    refine bytesOf_inj ?_
    rw [bytesOf_extract, quoted_bytes, List.take_succ_cons, List.drop_succ_cons, List.drop_zero, List.take_left' (bytesOf_length s)]
  obtain ⟨out, k1, h1⟩ := unquote_l0 hs s.size 0 [] (by omega) (by omega) (by simp; omega) hE
  refine ⟨out, k1, fun k hk => ?_⟩
  have h1' := h1 k hk
  dsimp only at h1' ⊢
  have w : wrap64 (((s.size + 2 : Nat) : Int) - 1) = ((s.size + 1 : Nat) : Int) := by rw [wr (by omega) (by omega)]; omega
  rw [spec_Unquote.f, hz, w, if_pos (by omega), if_pos (by omega), Int.toNat_natCast, hx]
  exact h1'
theorem unescape_l0 {s : ByteArray} (hs : s.size ≤ 200000) : ∀ (d i : Nat), s.size - i ≤ d → i ≤ s.size → Es s i = Es s 0 → ∃ x, Ev (fun k => spec_Unescape.l0 k s i) (x, Es s 0)
  | d, i, hd, hi, hE => by
    by_cases hlt : i < s.size
    · have w1 : wrap64 ((i : Int) + 1) = ((i + 1 : Nat) : Int) := by rw [wr (by omega) (by omega)]; omega
      by_cases h92 : bt s (i : Int) = 92
      · have he := escape_ev (s := s) (by omega) (i := ((i + 1 : Nat) : Int)) (by omega) (by omega)
        cases hm : escEnd s ((i + 1 : Nat) : Int) with
        | none =>
          obtain ⟨p, k0, h0⟩ := he.2 hm
          have hb := Es_bad (s := s) (i := i) h92 (by rw [show (i : Int) + 1 = ((i + 1 : Nat) : Int) by omega]; exact hm)
          rw [← hE, hb]
          refine ⟨(⟨#[]⟩ : ByteArray), k0 + 1, fun k hk => ?_⟩
          obtain ⟨k, rfl⟩ : ∃ m, k = m + 1 := ⟨k - 1, by omega⟩
          have h0' := h0 k (by omega)
          dsimp only at h0' ⊢
          rw [spec_Unescape.l0, if_pos (by omega), if_pos (by omega), if_pos h92, w1, h0', Option.bind_some, if_neg Bool.false_ne_true]
        | some m =>
          have hle := escEnd_le hm
          obtain ⟨k0, h0⟩ := he.1 m hm
          have hb := Es_esc (s := s) (i := i) h92 (by rw [show (i : Int) + 1 = ((i + 1 : Nat) : Int) by omega]; exact hm)
          obtain ⟨x, k1, h1⟩ := unescape_l0 hs (d - 1) m.toNat (by omega) (by omega) (by rw [← hb]; exact hE)
          refine ⟨x, k0 + k1 + 1, fun k hk => ?_⟩
          obtain ⟨k, rfl⟩ : ∃ m, k = m + 1 := ⟨k - 1, by omega⟩
          have h0' := h0 k (by omega)
          have h1' := h1 k (by omega)
          have wm : wrap64 (wrap64 (m - 1) + 1) = m := by rw [wr (x := m - 1) (by omega) (by omega), wr (by omega) (by omega)]; omega
          dsimp only at h0' h1' ⊢
          rw [Int.toNat_of_nonneg (by omega)] at h1'
          rw [spec_Unescape.l0, if_pos (by omega), if_pos (by omega), if_pos h92, w1, h0', Option.bind_some, if_pos rfl, wm]
          exact h1'
      · obtain ⟨x, k1, h1⟩ := unescape_l0 hs (d - 1) (i + 1) (by omega) (by omega) (by rw [← Es_on hlt h92]; exact hE)
        refine ⟨x, k1 + 1, fun k hk => ?_⟩
        obtain ⟨k, rfl⟩ : ∃ m, k = m + 1 := ⟨k - 1, by omega⟩
        have h1' := h1 k (by omega)
        dsimp only at h1' ⊢
        rw [spec_Unescape.l0, if_pos (by omega), if_pos (by omega), if_neg h92, w1]
        exact h1'
    · have ht : Es s 0 = true := by rw [← hE]; exact Es_end (by omega)
      obtain ⟨out, k1, h1⟩ := unquote_f hs ht
      rw [ht]
      refine ⟨out, k1 + 1, fun k hk => ?_⟩
      obtain ⟨k, rfl⟩ : ∃ m, k = m + 1 := ⟨k - 1, by omega⟩
      have h1' := h1 k (by omega)
      dsimp only at h1' ⊢
      rw [spec_Unescape.l0, if_neg (by omega), if_pos (by omega), if_pos (by omega), h1', Option.bind_some]
  termination_by d i => s.size - i
/-! ### what the program gives -/
theorem Good.len {l r : List Int} (h : Good l r) : r.length ≤ l.length := by
  induction h with
  | nil => exact Nat.le_refl _
  | char _ _ ih => simpa using ih
  | two _ _ ih => simp; omega
  | @uni a b c d l r h1 h2 h3 _ ih =>
    have := (Lib.encodeRuneZ_length (val4 a b c d)).2
    simp only [List.length_append, List.length_cons]; omega
  | @pair a b c d e f g h l r h1 h2 h3 h4 _ ih =>
    have := (Lib.encodeRuneZ_length (65536 + (val4 a b c d - 55296) * 1024 + (val4 e f g h - 56320))).2
    simp only [List.length_append, List.length_cons]; omega
theorem impl_ev {s : ByteArray} {r : List Int} (hs : s.size ≤ 131072) (h : Good (bytesOf s) r) : Ev (fun k => impl_JpUnescape.f k s (s.size : Int)) (strOfNums r, true) := by
  obtain ⟨k0, h0⟩ := unF_ev h (s.size + 1) (by rw [bytesOf_length]; omega)
  refine ⟨k0, fun k hk => ?_⟩
  have h0' := h0 k hk
  dsimp only at h0' ⊢
  rw [impl_JpUnescape.f, if_pos rfl, if_pos hs, h0', Option.bind_some]
theorem str_append (r q : List Int) : strOfNums (r ++ q) = strOfNums r ++ strOfNums q := by
  apply ByteArray.ext
  apply Array.ext'
  rw [strOfNums_data, ByteArray.data_append, Array.toList_append, strOfNums_data, strOfNums_data, List.map_append]
theorem parts (a b : ByteArray) : ∃ k, laws_FnJpUnescapeParts.f k a b = some true := by
  have t0 : ∀ k, laws_FnJpUnescapeParts.j0 (k + 1) a b true = some true := fun k => by rw [laws_FnJpUnescapeParts.j0, if_pos rfl]
  have t1 : ∀ k, laws_FnJpUnescapeParts.j1 (k + 1) a b true = some true := fun k => by rw [laws_FnJpUnescapeParts.j1, if_pos rfl]
  by_cases g1 : (a.size : Int) > 2147483647
  · exact ⟨1, by rw [laws_FnJpUnescapeParts.f, if_pos g1]; exact t0 0⟩
  by_cases g2 : (b.size : Int) > 2147483647
  · exact ⟨1, by rw [laws_FnJpUnescapeParts.f, if_neg g1, decide_eq_true g2]; exact t0 0⟩
  have tf : ∀ k, laws_FnJpUnescapeParts.f k a b = laws_FnJpUnescapeParts.j0 k a b false := fun k => by rw [laws_FnJpUnescapeParts.f, if_neg g1, decide_eq_false g2]
  by_cases g3 : (a.size : Int) > 65536
  · exact ⟨2, by rw [tf, laws_FnJpUnescapeParts.j0, if_neg (by decide), if_pos g3]; exact t1 0⟩
  by_cases g4 : (b.size : Int) > 65536
  · exact ⟨2, by rw [tf, laws_FnJpUnescapeParts.j0, if_neg (by decide), if_neg g3, if_pos g4]; exact t1 0⟩
  obtain ⟨p, ⟨kp, hp⟩, gp⟩ := paired_l0 (s := a) (by omega) a.size 0 (by omega) (by omega)
  obtain ⟨q, ⟨kq, hq⟩, gq⟩ := paired_l0 (s := b) (by omega) b.size 0 (by omega) (by omega)
  have fp : ∀ k, kp ≤ k → spec_Paired.f k a = some p := fun k hk => hp k hk
  have fq : ∀ k, kq ≤ k → spec_Paired.f k b = some q := fun k hk => hq k hk
  cases p with
  | false =>
    refine ⟨kp + 2, ?_⟩
    rw [tf, laws_FnJpUnescapeParts.j0, if_neg (by decide), if_neg g3, if_neg g4, fp _ (by omega), Option.bind_some, if_neg (by decide)]
    exact t1 _
  | true =>
  cases q with
  | false =>
    refine ⟨kp + kq + 2, ?_⟩
    rw [tf, laws_FnJpUnescapeParts.j0, if_neg (by decide), if_neg g3, if_neg g4, fp _ (by omega), Option.bind_some, if_pos rfl, fq _ (by omega), Option.bind_some]
    exact t1 _
  | true =>
  obtain ⟨x, kx, hx⟩ := unescape_l0 (s := a) (by omega) a.size 0 (by omega) (by omega) rfl
  obtain ⟨y, ky, hy⟩ := unescape_l0 (s := b) (by omega) b.size 0 (by omega) (by omega) rfl
  have fx : ∀ k, kx ≤ k → spec_Unescape.f k a = some (x, Es a 0) := fun k hk => hx k hk
  have fy : ∀ k, ky ≤ k → spec_Unescape.f k b = some (y, Es b 0) := fun k hk => hy k hk
  have tg : ∀ k, kp ≤ k → kq ≤ k → laws_FnJpUnescapeParts.f (k + 1) a b = laws_FnJpUnescapeParts.j1 k a b false := fun k h1 h2 => by
    rw [tf, laws_FnJpUnescapeParts.j0, if_neg (by decide), if_neg g3, if_neg g4, fp _ h1, Option.bind_some, if_pos rfl, fq _ h2, Option.bind_some]
    rfl
  cases ea : Es a 0 with
  | false =>
    refine ⟨kp + kq + kx + 2, ?_⟩
    rw [tg _ (by omega) (by omega), laws_FnJpUnescapeParts.j1, if_neg (by decide), fx _ (by omega), ea, Option.bind_some, if_neg Bool.false_ne_true]
  | true =>
  cases eb : Es b 0 with
  | false =>
    refine ⟨kp + kq + kx + ky + 2, ?_⟩
    rw [tg _ (by omega) (by omega), laws_FnJpUnescapeParts.j1, if_neg (by decide), fx _ (by omega), ea, Option.bind_some, if_pos rfl, fy _ (by omega), eb, Option.bind_some, if_neg Bool.false_ne_true]
  | true =>
  obtain ⟨r, hr⟩ := gp rfl ea
  obtain ⟨t, ht⟩ := gq rfl eb
  rw [List.drop_zero] at hr ht
  have hab : Good (bytesOf (a ++ b)) (r ++ t) := by rw [bytesOf_append]; exact hr.append ht
  have hz : (a ++ b).size = a.size + b.size := by rw [size_of (bytesOf_append a b), List.length_append, bytesOf_length, bytesOf_length]
  have hwz : wrap64 ((a.size : Int) + (b.size : Int)) = ((a ++ b).size : Int) := by rw [wr (by omega) (by omega), hz]; omega
  obtain ⟨k1, i1⟩ := impl_ev (by omega) hr
  obtain ⟨k2, i2⟩ := impl_ev (by omega) ht
  obtain ⟨k3, i3⟩ := impl_ev (by omega) hab
  have lr := hr.len
  have lt := ht.len
  rw [bytesOf_length] at lr lt
  refine ⟨kp + kq + kx + ky + k1 + k2 + k3 + 2, ?_⟩
  have i1' := i1 (kp + kq + kx + ky + k1 + k2 + k3) (by omega)
  have i2' := i2 (kp + kq + kx + ky + k1 + k2 + k3) (by omega)
  have i3' := i3 (kp + kq + kx + ky + k1 + k2 + k3) (by omega)
  dsimp only at i1' i2' i3'
  rw [tg _ (by omega) (by omega), laws_FnJpUnescapeParts.j1, if_neg (by decide), fx _ (by omega), ea, Option.bind_some, if_pos rfl, fy _ (by omega), eb, Option.bind_some, if_pos rfl, i1', Option.bind_some, i2', Option.bind_some, if_pos (by omega), hwz, i3', Option.bind_some, if_pos rfl, if_pos rfl, if_pos rfl, if_pos (by rw [strOfNums_size, strOfNums_size]; omega), str_append]
  congr 1
  exact beq_self_eq_true _
theorem FnJpUnescapeParts : laws_FnJpUnescapeParts.Pure := fun a b _ _ => parts a b
end Go.Proofs.YtfpbbnllaogclaaDoor.Pure
