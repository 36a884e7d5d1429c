-- Written by a program of this session out of the translation (a changed copy of the kit's print); Lean checks it.
import Derived.Test.YtfpbbnllaogclaaDoorPAx0
import Derived.Test.YtfpbbnllaogclaaDoorPAx1
import Derived.Test.YtfpbbnllaogclaaDoorPAx3
import Derived.Test.YtfpbbnllaogclaaDoorPAx9
import Derived.Test.YtfpbbnllaogclaaDoorPAx10
import Derived.Test.YtfpbbnllaogclaaDoorPAx13
namespace Go.Proofs.YtfpbbnllaogclaaDoor.PA
open Go.RowKit Go.Proofs.YtfpbbnllaogclaaDoorW.PrintWords Go.Proofs.YtfpbbnllaogclaaDoorW.PrintLast Go.Proofs.YtfpbbnllaogclaaDoorW.PrintMore
attribute [local go_sem] max2_int min2_int max_two min_two max_three min_three max_four min_four   -- for this text's walks alone
set_option linter.unusedVariables false
set_option linter.unusedSimpArgs false

/-! ### match_match: function 68 -/
mutual
def match_match.l0 : Nat → ByteArray → ByteArray → Int → Unit → Int → Bool → Option (Int)
  | 0, _, _, _, _, _, _ => none
  | k + 1, x0, x1, x2, x3, x4, x5 => if (x1.size : Int) > 0 then (if 0 < (x1.size : Int) then (if (wrap32 (bt x1 0)) > 127 then ((utf8_DecodeRuneInString.f k x1).bind fun bt124 => (match_match.j1 k x0 x1 x2 x3 x4 x5 false bt124.1 bt124.2)) else (match_match.j1 k x0 x1 x2 x3 x4 x5 false (wrap32 (bt x1 0)) 1)) else (none)) else (if (x0.size : Int) = 0 then (some 1) else (some 0))
def match_match.j1 : Nat → ByteArray → ByteArray → Int → Unit → Int → Bool → Bool → Int → Int → Option (Int)
  | 0, _, _, _, _, _, _, _, _, _ => none
  | k + 1, x0, x1, x2, x3, x4, x5, x13, x14, x15 => if (x0.size : Int) > 0 then (if 0 < (x0.size : Int) then (if (wrap32 (bt x0 0)) > 127 then ((utf8_DecodeRuneInString.f k x0).bind fun bt126 => (match_match.j2 k x0 x1 x2 x3 x4 x5 x13 x14 x15 bt126.1 bt126.2)) else (match_match.j2 k x0 x1 x2 x3 x4 x5 x13 x14 x15 (wrap32 (bt x0 0)) 1)) else (none)) else (match_match.j2 k x0 x1 x2 x3 x4 x5 x13 x14 x15 0 0)
def match_match.j2 : Nat → ByteArray → ByteArray → Int → Unit → Int → Bool → Bool → Int → Int → Int → Int → Option (Int)
  | 0, _, _, _, _, _, _, _, _, _, _, _ => none
  | k + 1, x0, x1, x2, x3, x4, x5, x13, x14, x15, x16, x17 => if x14 = 63 then (if x17 = 0 then (some 0) else (if 0 ≤ x17 then (if x17 ≤ (x0.size : Int) then (if x13 = true then (match_match.l0 k (x0.extract (x17 : Int).toNat x0.size) x1 x2 x3 x4 x5) else (if 0 ≤ x15 then (if x15 ≤ (x1.size : Int) then (match_match.l0 k (x0.extract (x17 : Int).toNat x0.size) (x1.extract (x15 : Int).toNat x1.size) x2 x3 x4 x5) else (none)) else (none))) else (none)) else (none))) else (if x14 = 42 then (match_match.l1 k x0 x1 x2 x3 x4 x5 x17) else (if x17 = 0 then (some 0) else (if x14 = 92 then (if 0 ≤ x15 then (if x15 ≤ (x1.size : Int) then ((utf8_DecodeRuneInString.f k (x1.extract (x15 : Int).toNat x1.size)).bind fun bt132 => (if bt132.2 = 0 then (some 0) else (match_match.j5 k x0 (x1.extract (x15 : Int).toNat x1.size) x2 x3 x4 x5 x13 bt132.1 bt132.2 x16 x17))) else (none)) else (none)) else (match_match.j5 k x0 x1 x2 x3 x4 x5 x13 x14 x15 x16 x17))))
def match_match.j4 : Nat → ByteArray → ByteArray → Int → Unit → Int → Bool → Int → Option (Int)
  | 0, _, _, _, _, _, _, _ => none
  | k + 1, x0, x1, x2, x3, x4, x5, x17 => if (x1.size : Int) = 1 then (some 1) else ((match_matchTrimSuffix.f k x0 x1 x5).bind fun bt128 => (if bt128.2.2 = true then (if (bt128.2.1.size : Int) = 1 then (some 1) else (if 1 ≤ (bt128.2.1.size : Int) then ((match_match.f k bt128.1 (bt128.2.1.extract 1 bt128.2.1.size) x2 x3 x4 x5).bind fun t131 => (if t131 = 0 then (if (bt128.1.size : Int) = 0 then (some 0) else (if 0 ≤ x17 then (if x17 ≤ (bt128.1.size : Int) then (match_match.l0 k (bt128.1.extract (x17 : Int).toNat bt128.1.size) bt128.2.1 x2 x3 x4 x5) else (none)) else (none))) else (some t131))) else (none))) else (some 0)))
def match_match.l1 : Nat → ByteArray → ByteArray → Int → Unit → Int → Bool → Int → Option (Int)
  | 0, _, _, _, _, _, _, _ => none
  | k + 1, x0, x1, x2, x3, x4, x5, x17 => if (x1.size : Int) > 1 then (if 1 < (x1.size : Int) then (if (bt x1 1) = 42 then (if 1 ≤ (x1.size : Int) then (match_match.l1 k x0 (x1.extract 1 x1.size) x2 x3 x4 x5 x17) else (none)) else (match_match.j4 k x0 x1 x2 x3 x4 x5 x17)) else (none)) else (match_match.j4 k x0 x1 x2 x3 x4 x5 x17)
def match_match.j5 : Nat → ByteArray → ByteArray → Int → Unit → Int → Bool → Bool → Int → Int → Int → Int → Option (Int)
  | 0, _, _, _, _, _, _, _, _, _, _, _ => none
  | k + 1, x0, x1, x2, x3, x4, x5, x13, x14, x15, x16, x17 => if x5 = true then ((match_tolower.f x16).bind fun t134 => ((match_tolower.f x14).bind fun t135 => (match_match.j6 k x0 x1 x2 x3 x4 x5 x13 t135 x15 t134 x17))) else (match_match.j6 k x0 x1 x2 x3 x4 x5 x13 x14 x15 x16 x17)
def match_match.j6 : Nat → ByteArray → ByteArray → Int → Unit → Int → Bool → Bool → Int → Int → Int → Int → Option (Int)
  | 0, _, _, _, _, _, _, _, _, _, _, _ => none
  | k + 1, x0, x1, x2, x3, x4, x5, x13, x14, x15, x16, x17 => if x16 = x14 then (if 0 ≤ x17 then (if x17 ≤ (x0.size : Int) then (if x13 = true then (match_match.l0 k (x0.extract (x17 : Int).toNat x0.size) x1 x2 x3 x4 x5) else (if 0 ≤ x15 then (if x15 ≤ (x1.size : Int) then (match_match.l0 k (x0.extract (x17 : Int).toNat x0.size) (x1.extract (x15 : Int).toNat x1.size) x2 x3 x4 x5) else (none)) else (none))) else (none)) else (none)) else (some 0)
def match_match.f : Nat → ByteArray → ByteArray → Int → Unit → Int → Bool → Option (Int)
  | 0, _, _, _, _, _, _ => none
  | k + 1, a0, a1, a2, a3, a4, a5 => if a4 > (-1) then (none) else (match_match.l0 k a0 a1 a2 a3 a4 a5)
end
theorem match_match.mono_l : ∀ k, (∀ y0 y1 y2 y3 y4 y5, LeO (match_match.f k y0 y1 y2 y3 y4 y5) (match_match.f (k + 1) y0 y1 y2 y3 y4 y5)) ∧ (∀ y0 y1 y2 y3 y4 y5, LeO (match_match.l0 k y0 y1 y2 y3 y4 y5) (match_match.l0 (k + 1) y0 y1 y2 y3 y4 y5)) ∧ (∀ y0 y1 y2 y3 y4 y5 y6 y7 y8, LeO (match_match.j1 k y0 y1 y2 y3 y4 y5 y6 y7 y8) (match_match.j1 (k + 1) y0 y1 y2 y3 y4 y5 y6 y7 y8)) ∧ (∀ y0 y1 y2 y3 y4 y5 y6 y7 y8 y9 y10, LeO (match_match.j2 k y0 y1 y2 y3 y4 y5 y6 y7 y8 y9 y10) (match_match.j2 (k + 1) y0 y1 y2 y3 y4 y5 y6 y7 y8 y9 y10)) ∧ (∀ y0 y1 y2 y3 y4 y5 y6, LeO (match_match.j4 k y0 y1 y2 y3 y4 y5 y6) (match_match.j4 (k + 1) y0 y1 y2 y3 y4 y5 y6)) ∧ (∀ y0 y1 y2 y3 y4 y5 y6, LeO (match_match.l1 k y0 y1 y2 y3 y4 y5 y6) (match_match.l1 (k + 1) y0 y1 y2 y3 y4 y5 y6)) ∧ (∀ y0 y1 y2 y3 y4 y5 y6 y7 y8 y9 y10, LeO (match_match.j5 k y0 y1 y2 y3 y4 y5 y6 y7 y8 y9 y10) (match_match.j5 (k + 1) y0 y1 y2 y3 y4 y5 y6 y7 y8 y9 y10)) ∧ (∀ y0 y1 y2 y3 y4 y5 y6 y7 y8 y9 y10, LeO (match_match.j6 k y0 y1 y2 y3 y4 y5 y6 y7 y8 y9 y10) (match_match.j6 (k + 1) y0 y1 y2 y3 y4 y5 y6 y7 y8 y9 y10))
  | 0 => ⟨fun _ _ _ _ _ _ r h => by simp [match_match.f] at h, fun _ _ _ _ _ _ r h => by simp [match_match.l0] at h, fun _ _ _ _ _ _ _ _ _ r h => by simp [match_match.j1] at h, fun _ _ _ _ _ _ _ _ _ _ _ r h => by simp [match_match.j2] at h, fun _ _ _ _ _ _ _ r h => by simp [match_match.j4] at h, fun _ _ _ _ _ _ _ r h => by simp [match_match.l1] at h, fun _ _ _ _ _ _ _ _ _ _ _ r h => by simp [match_match.j5] at h, fun _ _ _ _ _ _ _ _ _ _ _ r h => by simp [match_match.j6] at h⟩
  | k + 1 => by
    obtain ⟨ih0, ih1, ih2, ih3, ih4, ih5, ih6, ih7⟩ := match_match.mono_l k
    refine ⟨?_, ?_, ?_, ?_, ?_, ?_, ?_, ?_⟩
    · intro y0 y1 y2 y3 y4 y5
      unfold match_match.f
      repeat' first
      | (with_reducible exact ih0 _ _ _ _ _ _)
      | (with_reducible exact ih1 _ _ _ _ _ _)
      | (with_reducible exact ih2 _ _ _ _ _ _ _ _ _)
      | (with_reducible exact ih3 _ _ _ _ _ _ _ _ _ _ _)
      | (with_reducible exact ih4 _ _ _ _ _ _ _)
      | (with_reducible exact ih5 _ _ _ _ _ _ _)
      | (with_reducible exact ih6 _ _ _ _ _ _ _ _ _ _ _)
      | (with_reducible exact ih7 _ _ _ _ _ _ _ _ _ _ _)
      | (with_reducible exact match_matchTrimSuffix.mono _ _ _ _)
      | (with_reducible exact utf8_DecodeRuneInString.mono _ _)
      | (with_reducible exact LeO.refl _)
      | (with_reducible exact LeO.none _)
      | (with_reducible refine LeO.ite ?_ ?_)
      | (with_reducible refine LeO.bind ?_ (fun _ => ?_))
      | exact ih0 _ _ _ _ _ _
      | exact ih1 _ _ _ _ _ _
      | exact ih2 _ _ _ _ _ _ _ _ _
      | exact ih3 _ _ _ _ _ _ _ _ _ _ _
      | exact ih4 _ _ _ _ _ _ _
      | exact ih5 _ _ _ _ _ _ _
      | exact ih6 _ _ _ _ _ _ _ _ _ _ _
      | exact ih7 _ _ _ _ _ _ _ _ _ _ _
      | exact match_matchTrimSuffix.mono _ _ _ _
      | exact utf8_DecodeRuneInString.mono _ _
      | exact LeO.none _
      | refine LeO.ite ?_ ?_
      | refine LeO.bind ?_ (fun _ => ?_)
    · intro y0 y1 y2 y3 y4 y5
      unfold match_match.l0
      repeat' first
      | (with_reducible exact ih0 _ _ _ _ _ _)
      | (with_reducible exact ih1 _ _ _ _ _ _)
      | (with_reducible exact ih2 _ _ _ _ _ _ _ _ _)
      | (with_reducible exact ih3 _ _ _ _ _ _ _ _ _ _ _)
      | (with_reducible exact ih4 _ _ _ _ _ _ _)
      | (with_reducible exact ih5 _ _ _ _ _ _ _)
      | (with_reducible exact ih6 _ _ _ _ _ _ _ _ _ _ _)
      | (with_reducible exact ih7 _ _ _ _ _ _ _ _ _ _ _)
      | (with_reducible exact match_matchTrimSuffix.mono _ _ _ _)
      | (with_reducible exact utf8_DecodeRuneInString.mono _ _)
      | (with_reducible exact LeO.refl _)
      | (with_reducible exact LeO.none _)
      | (with_reducible refine LeO.ite ?_ ?_)
      | (with_reducible refine LeO.bind ?_ (fun _ => ?_))
      | exact ih0 _ _ _ _ _ _
      | exact ih1 _ _ _ _ _ _
      | exact ih2 _ _ _ _ _ _ _ _ _
      | exact ih3 _ _ _ _ _ _ _ _ _ _ _
      | exact ih4 _ _ _ _ _ _ _
      | exact ih5 _ _ _ _ _ _ _
      | exact ih6 _ _ _ _ _ _ _ _ _ _ _
      | exact ih7 _ _ _ _ _ _ _ _ _ _ _
      | exact match_matchTrimSuffix.mono _ _ _ _
      | exact utf8_DecodeRuneInString.mono _ _
      | exact LeO.none _
      | refine LeO.ite ?_ ?_
      | refine LeO.bind ?_ (fun _ => ?_)
    · intro y0 y1 y2 y3 y4 y5 y6 y7 y8
      unfold match_match.j1
      repeat' first
      | (with_reducible exact ih0 _ _ _ _ _ _)
      | (with_reducible exact ih1 _ _ _ _ _ _)
      | (with_reducible exact ih2 _ _ _ _ _ _ _ _ _)
      | (with_reducible exact ih3 _ _ _ _ _ _ _ _ _ _ _)
      | (with_reducible exact ih4 _ _ _ _ _ _ _)
      | (with_reducible exact ih5 _ _ _ _ _ _ _)
      | (with_reducible exact ih6 _ _ _ _ _ _ _ _ _ _ _)
      | (with_reducible exact ih7 _ _ _ _ _ _ _ _ _ _ _)
      | (with_reducible exact match_matchTrimSuffix.mono _ _ _ _)
      | (with_reducible exact utf8_DecodeRuneInString.mono _ _)
      | (with_reducible exact LeO.refl _)
      | (with_reducible exact LeO.none _)
      | (with_reducible refine LeO.ite ?_ ?_)
      | (with_reducible refine LeO.bind ?_ (fun _ => ?_))
      | exact ih0 _ _ _ _ _ _
      | exact ih1 _ _ _ _ _ _
      | exact ih2 _ _ _ _ _ _ _ _ _
      | exact ih3 _ _ _ _ _ _ _ _ _ _ _
      | exact ih4 _ _ _ _ _ _ _
      | exact ih5 _ _ _ _ _ _ _
      | exact ih6 _ _ _ _ _ _ _ _ _ _ _
      | exact ih7 _ _ _ _ _ _ _ _ _ _ _
      | exact match_matchTrimSuffix.mono _ _ _ _
      | exact utf8_DecodeRuneInString.mono _ _
      | exact LeO.none _
      | refine LeO.ite ?_ ?_
      | refine LeO.bind ?_ (fun _ => ?_)
    · intro y0 y1 y2 y3 y4 y5 y6 y7 y8 y9 y10
      unfold match_match.j2
      repeat' first
      | (with_reducible exact ih0 _ _ _ _ _ _)
      | (with_reducible exact ih1 _ _ _ _ _ _)
      | (with_reducible exact ih2 _ _ _ _ _ _ _ _ _)
      | (with_reducible exact ih3 _ _ _ _ _ _ _ _ _ _ _)
      | (with_reducible exact ih4 _ _ _ _ _ _ _)
      | (with_reducible exact ih5 _ _ _ _ _ _ _)
      | (with_reducible exact ih6 _ _ _ _ _ _ _ _ _ _ _)
      | (with_reducible exact ih7 _ _ _ _ _ _ _ _ _ _ _)
      | (with_reducible exact match_matchTrimSuffix.mono _ _ _ _)
      | (with_reducible exact utf8_DecodeRuneInString.mono _ _)
      | (with_reducible exact LeO.refl _)
      | (with_reducible exact LeO.none _)
      | (with_reducible refine LeO.ite ?_ ?_)
      | (with_reducible refine LeO.bind ?_ (fun _ => ?_))
      | exact ih0 _ _ _ _ _ _
      | exact ih1 _ _ _ _ _ _
      | exact ih2 _ _ _ _ _ _ _ _ _
      | exact ih3 _ _ _ _ _ _ _ _ _ _ _
      | exact ih4 _ _ _ _ _ _ _
      | exact ih5 _ _ _ _ _ _ _
      | exact ih6 _ _ _ _ _ _ _ _ _ _ _
      | exact ih7 _ _ _ _ _ _ _ _ _ _ _
      | exact match_matchTrimSuffix.mono _ _ _ _
      | exact utf8_DecodeRuneInString.mono _ _
      | exact LeO.none _
      | refine LeO.ite ?_ ?_
      | refine LeO.bind ?_ (fun _ => ?_)
    · intro y0 y1 y2 y3 y4 y5 y6
      unfold match_match.j4
      repeat' first
      | (with_reducible exact ih0 _ _ _ _ _ _)
      | (with_reducible exact ih1 _ _ _ _ _ _)
      | (with_reducible exact ih2 _ _ _ _ _ _ _ _ _)
      | (with_reducible exact ih3 _ _ _ _ _ _ _ _ _ _ _)
      | (with_reducible exact ih4 _ _ _ _ _ _ _)
      | (with_reducible exact ih5 _ _ _ _ _ _ _)
      | (with_reducible exact ih6 _ _ _ _ _ _ _ _ _ _ _)
      | (with_reducible exact ih7 _ _ _ _ _ _ _ _ _ _ _)
      | (with_reducible exact match_matchTrimSuffix.mono _ _ _ _)
      | (with_reducible exact utf8_DecodeRuneInString.mono _ _)
      | (with_reducible exact LeO.refl _)
      | (with_reducible exact LeO.none _)
      | (with_reducible refine LeO.ite ?_ ?_)
      | (with_reducible refine LeO.bind ?_ (fun _ => ?_))
      | exact ih0 _ _ _ _ _ _
      | exact ih1 _ _ _ _ _ _
      | exact ih2 _ _ _ _ _ _ _ _ _
      | exact ih3 _ _ _ _ _ _ _ _ _ _ _
      | exact ih4 _ _ _ _ _ _ _
      | exact ih5 _ _ _ _ _ _ _
      | exact ih6 _ _ _ _ _ _ _ _ _ _ _
      | exact ih7 _ _ _ _ _ _ _ _ _ _ _
      | exact match_matchTrimSuffix.mono _ _ _ _
      | exact utf8_DecodeRuneInString.mono _ _
      | exact LeO.none _
      | refine LeO.ite ?_ ?_
      | refine LeO.bind ?_ (fun _ => ?_)
    · intro y0 y1 y2 y3 y4 y5 y6
      unfold match_match.l1
      repeat' first
      | (with_reducible exact ih0 _ _ _ _ _ _)
      | (with_reducible exact ih1 _ _ _ _ _ _)
      | (with_reducible exact ih2 _ _ _ _ _ _ _ _ _)
      | (with_reducible exact ih3 _ _ _ _ _ _ _ _ _ _ _)
      | (with_reducible exact ih4 _ _ _ _ _ _ _)
      | (with_reducible exact ih5 _ _ _ _ _ _ _)
      | (with_reducible exact ih6 _ _ _ _ _ _ _ _ _ _ _)
      | (with_reducible exact ih7 _ _ _ _ _ _ _ _ _ _ _)
      | (with_reducible exact match_matchTrimSuffix.mono _ _ _ _)
      | (with_reducible exact utf8_DecodeRuneInString.mono _ _)
      | (with_reducible exact LeO.refl _)
      | (with_reducible exact LeO.none _)
      | (with_reducible refine LeO.ite ?_ ?_)
      | (with_reducible refine LeO.bind ?_ (fun _ => ?_))
      | exact ih0 _ _ _ _ _ _
      | exact ih1 _ _ _ _ _ _
      | exact ih2 _ _ _ _ _ _ _ _ _
      | exact ih3 _ _ _ _ _ _ _ _ _ _ _
      | exact ih4 _ _ _ _ _ _ _
      | exact ih5 _ _ _ _ _ _ _
      | exact ih6 _ _ _ _ _ _ _ _ _ _ _
      | exact ih7 _ _ _ _ _ _ _ _ _ _ _
      | exact match_matchTrimSuffix.mono _ _ _ _
      | exact utf8_DecodeRuneInString.mono _ _
      | exact LeO.none _
      | refine LeO.ite ?_ ?_
      | refine LeO.bind ?_ (fun _ => ?_)
    · intro y0 y1 y2 y3 y4 y5 y6 y7 y8 y9 y10
      unfold match_match.j5
      repeat' first
      | (with_reducible exact ih0 _ _ _ _ _ _)
      | (with_reducible exact ih1 _ _ _ _ _ _)
      | (with_reducible exact ih2 _ _ _ _ _ _ _ _ _)
      | (with_reducible exact ih3 _ _ _ _ _ _ _ _ _ _ _)
      | (with_reducible exact ih4 _ _ _ _ _ _ _)
      | (with_reducible exact ih5 _ _ _ _ _ _ _)
      | (with_reducible exact ih6 _ _ _ _ _ _ _ _ _ _ _)
      | (with_reducible exact ih7 _ _ _ _ _ _ _ _ _ _ _)
      | (with_reducible exact match_matchTrimSuffix.mono _ _ _ _)
      | (with_reducible exact utf8_DecodeRuneInString.mono _ _)
      | (with_reducible exact LeO.refl _)
      | (with_reducible exact LeO.none _)
      | (with_reducible refine LeO.ite ?_ ?_)
      | (with_reducible refine LeO.bind ?_ (fun _ => ?_))
      | exact ih0 _ _ _ _ _ _
      | exact ih1 _ _ _ _ _ _
      | exact ih2 _ _ _ _ _ _ _ _ _
      | exact ih3 _ _ _ _ _ _ _ _ _ _ _
      | exact ih4 _ _ _ _ _ _ _
      | exact ih5 _ _ _ _ _ _ _
      | exact ih6 _ _ _ _ _ _ _ _ _ _ _
      | exact ih7 _ _ _ _ _ _ _ _ _ _ _
      | exact match_matchTrimSuffix.mono _ _ _ _
      | exact utf8_DecodeRuneInString.mono _ _
      | exact LeO.none _
      | refine LeO.ite ?_ ?_
      | refine LeO.bind ?_ (fun _ => ?_)
    · intro y0 y1 y2 y3 y4 y5 y6 y7 y8 y9 y10
      unfold match_match.j6
      repeat' first
      | (with_reducible exact ih0 _ _ _ _ _ _)
      | (with_reducible exact ih1 _ _ _ _ _ _)
      | (with_reducible exact ih2 _ _ _ _ _ _ _ _ _)
      | (with_reducible exact ih3 _ _ _ _ _ _ _ _ _ _ _)
      | (with_reducible exact ih4 _ _ _ _ _ _ _)
      | (with_reducible exact ih5 _ _ _ _ _ _ _)
      | (with_reducible exact ih6 _ _ _ _ _ _ _ _ _ _ _)
      | (with_reducible exact ih7 _ _ _ _ _ _ _ _ _ _ _)
      | (with_reducible exact match_matchTrimSuffix.mono _ _ _ _)
      | (with_reducible exact utf8_DecodeRuneInString.mono _ _)
      | (with_reducible exact LeO.refl _)
      | (with_reducible exact LeO.none _)
      | (with_reducible refine LeO.ite ?_ ?_)
      | (with_reducible refine LeO.bind ?_ (fun _ => ?_))
      | exact ih0 _ _ _ _ _ _
      | exact ih1 _ _ _ _ _ _
      | exact ih2 _ _ _ _ _ _ _ _ _
      | exact ih3 _ _ _ _ _ _ _ _ _ _ _
      | exact ih4 _ _ _ _ _ _ _
      | exact ih5 _ _ _ _ _ _ _
      | exact ih6 _ _ _ _ _ _ _ _ _ _ _
      | exact ih7 _ _ _ _ _ _ _ _ _ _ _
      | exact match_matchTrimSuffix.mono _ _ _ _
      | exact utf8_DecodeRuneInString.mono _ _
      | exact LeO.none _
      | refine LeO.ite ?_ ?_
      | refine LeO.bind ?_ (fun _ => ?_)
theorem match_match.mono : ∀ a0 a1 a2 a3 a4 a5 k, LeO (match_match.f k a0 a1 a2 a3 a4 a5) (match_match.f (k + 1) a0 a1 a2 a3 a4 a5) := by
  intro a0 a1 a2 a3 a4 a5 k
  obtain ⟨ih0, ih1, ih2, ih3, ih4, ih5, ih6, ih7⟩ := match_match.mono_l k
  exact ih0 a0 a1 a2 a3 a4 a5
set_option maxHeartbeats 8000000 in
set_option maxRecDepth 100000 in
theorem match_match.calls (k : Nat) : ∀ (a0 : ByteArray) (a1 : ByteArray) (a2 : Int) (a3 : Unit) (a4 : Int) (a5 : Bool) (r : Int) (w : World) (hT4 : Kd.C (Kd.int .u8) w (some ⟨4, 0, none⟩) tabG4.length tabG4) (hT5 : Kd.C k159 w (some ⟨5, 0, none⟩) tabG5.length tabG5) (h : match_match.f k a0 a1 a2 a3 a4 a5 = some r),
    Calls Tryd.prog 68 #[.string a0, .string a1, .int .i64 a2, .pointer none, .int .i64 a4, .bool a5] w fun e w' => e = .returned (.int .i64 r) ∧ Below w.heap.size w w' := by
  induction k using Nat.strongRecOn with
  | _ k ih =>
  intro a0 a1 a2 a3 a4 a5 r w hT4 hT5 h
  cases k with
  | zero => exact absurd h (by simp [match_match.f])
  | succ k =>
  simp only [match_match.f] at h
  have HRG4 := Aside0.mk hT4
  clear hT4
  have HRG5 := Aside0.mk hT5
  clear hT5
  have HB := Aside0.mk (Below.refl w.heap.size w)
  have H : (if a4 > (-1) then (none) else (match_match.l0 k a0 a1 a2 a3 a4 a5)) = some r := h
  clear h
  by_cases c7 : a4 > (-1)
  · rw [if_pos c7] at H
    exact absurd H (by simp)
  · rw [if_neg c7] at H
    have c7b0 : decide ((-1) < a4) = false := decide_eq_false c7
    clear c7
    have H' := Aside0.mk H
    clear H
    go_enter Tryd.func68, Tryd.ntmps68
    go_wp2
    try simp only [Act.put, List.setIfInBounds_toArray, List.set_cons_succ, List.set_cons_zero]
    go_loopg [0, 1] k (fun kq v0 v1 w' => ∃ (x0_1 : ByteArray) (x1_1 : ByteArray), v0 = .string x0_1 ∧ v1 = .string x1_1 ∧ Aside0 (match_match.l0 kq x0_1 x1_1 a2 a3 a4 a5 = some r) ∧ Aside0 (kq ≤ k) ∧ Aside0 (Below w.heap.size w w'))
    case atStart => exact ⟨(a0), (a1), (by first | rfl | (simp; done) | (simp [*]; done)), (by first | rfl | (simp; done) | (simp [*]; done)), H', ⟨Nat.le_refl _⟩, ⟨by repeat (first | (with_reducible first | exact HB.out | apply below_alloc | apply pw_below_drewN | apply below_drew1) | exact HB.out)⟩⟩
    case round =>
      clear H'
      try clear p2
      try clear c6
      try clear c7
      try clear c7b0
      obtain ⟨x0_1, x1_1, rfl, rfl, HA, HK1, HB⟩ := hrel
      cases gk with
      | zero => exact absurd HA.out (by simp [match_match.l0])
      | succ k1 =>
        have H := HA.out
        clear HA
        simp only [match_match.l0] at H
        by_cases c8 : (x1_1.size : Int) > 0
        · rw [if_pos c8] at H
          have c8b0 : decide (0 < (x1_1.size : Int)) = true := decide_eq_true c8
          have c8b1 : decide (0 < x1_1.size) = true := decide_eq_true (by omega)
          clear c8
          by_cases c9 : 0 < (x1_1.size : Int)
          · rw [if_pos c9] at H
            have c9b0 : decide (0 < (x1_1.size : Int)) = true := decide_eq_true c9
            have c9b1 : decide (0 < x1_1.size) = true := decide_eq_true (by omega)
            clear c9
            have HC11 := Aside0.mk H
            clear H
            have p10 : 0 ≤ (0 : Int) := (by omega)
            have q10 : 0 < x1_1.size := (by have : (0 : Int) < (x1_1.size : Int) := of_decide_eq_true (by first | (with_reducible assumption) | assumption); omega)
            have hx10 : ∀ h : 0 < x1_1.size, ((x1_1[0]'h).toNat : Int) = bt x1_1 0 := bt_at x1_1 0
            clear p10
            have qi10 : (0 < (x1_1.size : Int)) = True := eq_true (of_decide_eq_true (by first | (with_reducible assumption) | assumption))
            replace q10 := eq_true q10
            go_upto_if 41 with (fail)
            go_cut [14, 15] (fun v14 v15 wc => ∃ (kq : Nat) (x14_10 : Int) (x15_10 : Int), v14 = .int .i32 x14_10 ∧ v15 = .int .i64 x15_10 ∧ Aside0 (match_match.j1 kq x0_1 x1_1 a2 a3 a4 a5 false x14_10 x15_10 = some r) ∧ Aside0 (kq ≤ k1) ∧ Aside0 (Below w.heap.size w wc))
            case first =>
              have H := HC11.out
              clear HC11
              by_cases c12 : (wrap32 (bt x1_1 0)) > 127
              · rw [if_pos c12] at H
                have c12b0 : decide (127 < (wrap32 (bt x1_1 0))) = true := decide_eq_true c12
                clear c12
                (first | rw [c12b0] | (simp only [i64_w, i32_w]; rw [c12b0]) | rw [c12b1] | skip)
                replace H := Option.bind_eq_some_iff.mp H
                obtain ⟨⟨t124, t125⟩, A130, H⟩ := H
                replace H : (match_match.j1 k1 x0_1 x1_1 a2 a3 a4 a5 false t124 t125) = some r := H
                have A13 := Aside0.mk A130
                clear A130
                as_aux_lemma =>
                  have H' := Aside0.mk H
                  clear H
                  go_wp2_with (first | ((with_reducible refine gate_callee (f := 82) rfl ?_); refine goesL_ (some 44) rfl rfl Tryd.func82 (by kernel_rfl) rfl #[.string x1_1] rfl (by (try simp only [List.map_toArray, List.map_cons, List.map_nil]); first | done | rfl | (simp only [List.length_drop, List.length_take]; rfl)) ?_; (with_reducible refine (utf8_DecodeRuneInString.calls k1 x1_1 t124 t125 _ ?side1 ?side2 A13.out).mono ?_); (case side1 => repeat (first | exact Kd.C_below HRG4.out (by repeat (first | (with_reducible first | exact HB.out | apply below_alloc | apply pw_below_drewN | apply below_drew1) | exact HB.out)) | exact HRG4.out | (with_reducible refine Kd.C_alloc ?_ _) | (with_reducible refine Kd.C_drewN ?_ _) | (with_reducible refine Kd.C_drew ?_))); (case side2 => repeat (first | exact Kd.C_below HRG5.out (by repeat (first | (with_reducible first | exact HB.out | apply below_alloc | apply pw_below_drewN | apply below_drew1) | exact HB.out)) | exact HRG5.out | (with_reducible refine Kd.C_alloc ?_ _) | (with_reducible refine Kd.C_drewN ?_ _) | (with_reducible refine Kd.C_drew ?_))); rintro e w14 ⟨rfl, hb⟩; refine ⟨_, rfl, ?_⟩; have n0_ := Aside0.mk (below_step (by repeat (first | (with_reducible first | exact HB.out | apply below_alloc | apply pw_below_drewN | apply below_drew1) | exact HB.out)) hb); clear HB; have HB := n0_; clear n0_; (try clear hb); (try clear hb2); (try clear hk); (try clear hi)))
                  go_meet
                  case rel => exact ⟨_, (t124), (t125), (by first | rfl | (simp; done) | (simp [*]; done)), (by first | rfl | (simp; done) | (simp [*]; done)), H', ⟨by have := HK1.out; first | omega | exact Nat.le_refl _⟩, ⟨by repeat (first | (with_reducible first | exact HB.out | apply below_alloc | apply pw_below_drewN | apply below_drew1) | exact HB.out)⟩⟩
              · rw [if_neg c12] at H
                have c12b0 : decide (127 < (wrap32 (bt x1_1 0))) = false := decide_eq_false c12
                clear c12
                (first | rw [c12b0] | (simp only [i64_w, i32_w]; rw [c12b0]) | rw [c12b1] | skip)
                as_aux_lemma =>
                  have H' := Aside0.mk H
                  clear H
                  go_wp2
                  go_meet
                  case rel => exact ⟨_, (wrap32 (bt x1_1 0)), (1), (by first | rfl | (simp; done) | (simp [*]; done)), (by first | rfl | (simp; done) | (simp [*]; done)), H', ⟨by have := HK1.out; first | omega | exact Nat.le_refl _⟩, ⟨by repeat (first | (with_reducible first | exact HB.out | apply below_alloc | apply pw_below_drewN | apply below_drew1) | exact HB.out)⟩⟩
            case rest =>
              clear HC11
              try clear c1
              try clear p1
              try clear q1
              try clear hx1
              try clear qi1
              try clear p2
              try clear p3
              try clear c6
              try clear c7
              try clear c7b0
              try clear c8
              try clear c8b0
              try clear c8b1
              try clear c9
              try clear c9b0
              try clear c9b1
              try clear p10
              try clear q10
              try clear hx10
              try clear qi10
              try clear c12
              try clear c12b0
              try clear c12b1
              try clear p10
              try clear p2
              try clear q10
              obtain ⟨kq, x14_10, x15_10, rfl, rfl, HA, HJ10, HB⟩ := hcut
              cases kq with
              | zero => exact absurd HA.out (by simp [match_match.j1])
              | succ kj10 =>
                have H := HA.out
                clear HA
                simp only [match_match.j1] at H
                have HC15 := Aside0.mk H
                clear H
                go_upto_if 49 with (fail)
                go_cut [16, 17] (fun v16 v17 wc => ∃ (kq : Nat) (x16_14 : Int) (x17_14 : Int), v16 = .int .i32 x16_14 ∧ v17 = .int .i64 x17_14 ∧ Aside0 (match_match.j2 kq x0_1 x1_1 a2 a3 a4 a5 false x14_10 x15_10 x16_14 x17_14 = some r) ∧ Aside0 (kq ≤ kj10) ∧ Aside0 (Below w.heap.size w wc))
                case first =>
                  have H := HC15.out
                  clear HC15
                  by_cases c16 : (x0_1.size : Int) > 0
                  · rw [if_pos c16] at H
                    have c16b0 : decide (0 < (x0_1.size : Int)) = true := decide_eq_true c16
                    have c16b1 : decide (0 < x0_1.size) = true := decide_eq_true (by omega)
                    clear c16
                    (first | rw [c16b0] | (simp only [i64_w, i32_w]; rw [c16b0]) | rw [c16b1] | skip)
                    by_cases c17 : 0 < (x0_1.size : Int)
                    · rw [if_pos c17] at H
                      have c17b0 : decide (0 < (x0_1.size : Int)) = true := decide_eq_true c17
                      have c17b1 : decide (0 < x0_1.size) = true := decide_eq_true (by omega)
                      clear c17
                      by_cases c19 : (wrap32 (bt x0_1 0)) > 127
                      · rw [if_pos c19] at H
                        have c19b0 : decide (127 < (wrap32 (bt x0_1 0))) = true := decide_eq_true c19
                        clear c19
                        replace H := Option.bind_eq_some_iff.mp H
                        obtain ⟨⟨t126, t127⟩, A200, H⟩ := H
                        replace H : (match_match.j2 kj10 x0_1 x1_1 a2 a3 a4 a5 false x14_10 x15_10 t126 t127) = some r := H
                        have A20 := Aside0.mk A200
                        clear A200
                        as_aux_lemma =>
                          have H' := Aside0.mk H
                          clear H
                          have p18 : 0 ≤ (0 : Int) := (by omega)
                          have q18 : 0 < x0_1.size := (by have : (0 : Int) < (x0_1.size : Int) := of_decide_eq_true (by first | (with_reducible assumption) | assumption); omega)
                          have hx18 : ∀ h : 0 < x0_1.size, ((x0_1[0]'h).toNat : Int) = bt x0_1 0 := bt_at x0_1 0
                          clear p18
                          have qi18 : (0 < (x0_1.size : Int)) = True := eq_true (of_decide_eq_true (by first | (with_reducible assumption) | assumption))
                          replace q18 := eq_true q18
                          go_wp2_with (first | ((with_reducible refine gate_callee (f := 82) rfl ?_); refine goesL_ (some 57) rfl rfl Tryd.func82 (by kernel_rfl) rfl #[.string x0_1] rfl (by (try simp only [List.map_toArray, List.map_cons, List.map_nil]); first | done | rfl | (simp only [List.length_drop, List.length_take]; rfl)) ?_; (with_reducible refine (utf8_DecodeRuneInString.calls kj10 x0_1 t126 t127 _ ?side1 ?side2 A20.out).mono ?_); (case side1 => repeat (first | exact Kd.C_below HRG4.out (by repeat (first | (with_reducible first | exact HB.out | apply below_alloc | apply pw_below_drewN | apply below_drew1) | exact HB.out)) | exact HRG4.out | (with_reducible refine Kd.C_alloc ?_ _) | (with_reducible refine Kd.C_drewN ?_ _) | (with_reducible refine Kd.C_drew ?_))); (case side2 => repeat (first | exact Kd.C_below HRG5.out (by repeat (first | (with_reducible first | exact HB.out | apply below_alloc | apply pw_below_drewN | apply below_drew1) | exact HB.out)) | exact HRG5.out | (with_reducible refine Kd.C_alloc ?_ _) | (with_reducible refine Kd.C_drewN ?_ _) | (with_reducible refine Kd.C_drew ?_))); rintro e w21 ⟨rfl, hb⟩; refine ⟨_, rfl, ?_⟩; have n0_ := Aside0.mk (below_step (by repeat (first | (with_reducible first | exact HB.out | apply below_alloc | apply pw_below_drewN | apply below_drew1) | exact HB.out)) hb); clear HB; have HB := n0_; clear n0_; (try clear hb); (try clear hb2); (try clear hk); (try clear hi)))
                          go_meet
                          case rel => exact ⟨_, (t126), (t127), (by first | rfl | (simp; done) | (simp [*]; done)), (by first | rfl | (simp; done) | (simp [*]; done)), H', ⟨by have := HK1.out; have := HJ10.out; first | omega | exact Nat.le_refl _⟩, ⟨by repeat (first | (with_reducible first | exact HB.out | apply below_alloc | apply pw_below_drewN | apply below_drew1) | exact HB.out)⟩⟩
                      · rw [if_neg c19] at H
                        have c19b0 : decide (127 < (wrap32 (bt x0_1 0))) = false := decide_eq_false c19
                        clear c19
                        as_aux_lemma =>
                          have H' := Aside0.mk H
                          clear H
                          have p18 : 0 ≤ (0 : Int) := (by omega)
                          have q18 : 0 < x0_1.size := (by have : (0 : Int) < (x0_1.size : Int) := of_decide_eq_true (by first | (with_reducible assumption) | assumption); omega)
                          have hx18 : ∀ h : 0 < x0_1.size, ((x0_1[0]'h).toNat : Int) = bt x0_1 0 := bt_at x0_1 0
                          clear p18
                          have qi18 : (0 < (x0_1.size : Int)) = True := eq_true (of_decide_eq_true (by first | (with_reducible assumption) | assumption))
                          replace q18 := eq_true q18
                          go_wp2
                          go_meet
                          case rel => exact ⟨_, (wrap32 (bt x0_1 0)), (1), (by first | rfl | (simp; done) | (simp [*]; done)), (by first | rfl | (simp; done) | (simp [*]; done)), H', ⟨by have := HK1.out; have := HJ10.out; first | omega | exact Nat.le_refl _⟩, ⟨by repeat (first | (with_reducible first | exact HB.out | apply below_alloc | apply pw_below_drewN | apply below_drew1) | exact HB.out)⟩⟩
                    · rw [if_neg c17] at H
                      exact absurd H (by simp)
                  · rw [if_neg c16] at H
                    have c16b0 : decide (0 < (x0_1.size : Int)) = false := decide_eq_false c16
                    have c16b1 : decide (0 < x0_1.size) = false := decide_eq_false (by omega)
                    clear c16
                    (first | rw [c16b0] | (simp only [i64_w, i32_w]; rw [c16b0]) | rw [c16b1] | skip)
                    as_aux_lemma =>
                      have H' := Aside0.mk H
                      clear H
                      go_wp2
                      go_meet
                      case rel => exact ⟨_, (0), (0), (by first | rfl | (simp; done) | (simp [*]; done)), (by first | rfl | (simp; done) | (simp [*]; done)), H', ⟨by have := HK1.out; have := HJ10.out; first | omega | exact Nat.le_refl _⟩, ⟨by repeat (first | (with_reducible first | exact HB.out | apply below_alloc | apply pw_below_drewN | apply below_drew1) | exact HB.out)⟩⟩
                case rest =>
                  clear HC15
                  try clear c1
                  try clear p1
                  try clear q1
                  try clear hx1
                  try clear qi1
                  try clear p2
                  try clear p3
                  try clear c6
                  try clear c7
                  try clear c7b0
                  try clear c8
                  try clear c8b0
                  try clear c8b1
                  try clear c9
                  try clear c9b0
                  try clear c9b1
                  try clear p10
                  try clear q10
                  try clear hx10
                  try clear qi10
                  try clear c12
                  try clear c12b0
                  try clear c12b1
                  try clear c16
                  try clear c16b0
                  try clear c16b1
                  try clear c17
                  try clear c17b0
                  try clear c17b1
                  try clear p18
                  try clear q18
                  try clear hx18
                  try clear qi18
                  try clear c19
                  try clear c19b0
                  try clear p1
                  try clear p10
                  try clear p18
                  try clear p2
                  try clear p3
                  try clear q1
                  try clear q10
                  try clear q18
                  obtain ⟨kq, x16_14, x17_14, rfl, rfl, HA, HJ14, HB⟩ := hcut
                  cases kq with
                  | zero => exact absurd HA.out (by simp [match_match.j2])
                  | succ kj14 =>
                    have H := HA.out
                    clear HA
                    simp only [match_match.j2] at H
                    by_cases c22 : x14_10 = 63
                    · rw [if_pos c22] at H
                      have c22b0 : (x14_10 == 63) = true := beq_iff_eq.mpr c22
                      have c22b1 : (x14_10 != 63) = false := bne_eq_false_iff_eq.mpr c22
                      clear c22
                      by_cases c23 : x17_14 = 0
                      · rw [if_pos c23] at H
                        have c23b0 : (x17_14 == 0) = true := beq_iff_eq.mpr c23
                        have c23b1 : (x17_14 != 0) = false := bne_eq_false_iff_eq.mpr c23
                        clear c23
                        as_aux_lemma =>
                          obtain rfl := Option.some.inj H
                          go_wp2
                          go_ret
                          exact ⟨by first | rfl | (simp [errW_none, errW_some] <;> rfl) | (simp [*, errW_none, errW_some] <;> rfl), by repeat (first | (with_reducible first | exact HB.out | apply below_alloc | apply pw_below_drewN | apply below_drew1) | exact HB.out)⟩
                      · rw [if_neg c23] at H
                        have c23b0 : (x17_14 == 0) = false := beq_eq_false_iff_ne.mpr c23
                        have c23b1 : (x17_14 != 0) = true := bne_iff_ne.mpr c23
                        by_cases c24 : 0 ≤ x17_14
                        · rw [if_pos c24] at H
                          have c24b0 := eq_true c24
                          have c24b1 : decide (0 ≤ x17_14) = true := decide_eq_true c24
                          clear c24
                          by_cases c25 : x17_14 ≤ (x0_1.size : Int)
                          · rw [if_pos c25] at H
                            have c25b0 := eq_true c25
                            have c25b1 : decide (x17_14 ≤ (x0_1.size : Int)) = true := decide_eq_true c25
                            clear c25
                            have H1 : (if 0 ≤ x15_10 then (if x15_10 ≤ (x1_1.size : Int) then (match_match.l0 kj14 (x0_1.extract (x17_14 : Int).toNat x0_1.size) (x1_1.extract (x15_10 : Int).toNat x1_1.size) a2 a3 a4 a5) else (none)) else (none)) = some r := by rw [if_neg (show ¬ (false = true) by decide)] at H; exact H
                            clear H
                            have H := H1
                            clear H1
                            by_cases c26 : 0 ≤ x15_10
                            · rw [if_pos c26] at H
                              have c26b0 := eq_true c26
                              have c26b1 : decide (0 ≤ x15_10) = true := decide_eq_true c26
                              clear c26
                              by_cases c27 : x15_10 ≤ (x1_1.size : Int)
                              · rw [if_pos c27] at H
                                have c27b0 := eq_true c27
                                have c27b1 : decide (x15_10 ≤ (x1_1.size : Int)) = true := decide_eq_true c27
                                clear c27
                                as_aux_lemma =>
                                  have H' := Aside0.mk H
                                  clear H
                                  try have hcs28 := fun W_ : World => run_slice_string_l (P := Tryd.prog) W_ 9 x0_1 Tryd.underlying9 .i64 x17_14 (of_decide_eq_true (by first | (with_reducible assumption) | assumption)) (of_decide_eq_true (by first | (with_reducible assumption) | assumption))
                                  try have hcs29 := fun W_ : World => run_slice_string_l (P := Tryd.prog) W_ 9 x1_1 Tryd.underlying9 .i64 x15_10 (of_decide_eq_true (by first | (with_reducible assumption) | assumption)) (of_decide_eq_true (by first | (with_reducible assumption) | assumption))
                                  go_wp2
                                  go_roundg kj14
                                  case measure => have := HK1.out; have := HJ10.out; have := HJ14.out; omega
                                  case rel => exact ⟨(x0_1.extract (x17_14 : Int).toNat x0_1.size), (x1_1.extract (x15_10 : Int).toNat x1_1.size), (by first | rfl | (simp; done) | (simp [*]; done)), (by first | rfl | (simp; done) | (simp [*]; done)), H', ⟨by have := HK1.out; have := HJ10.out; have := HJ14.out; omega⟩, ⟨by repeat (first | (with_reducible first | exact HB.out | apply below_alloc | apply pw_below_drewN | apply below_drew1) | exact HB.out)⟩⟩
                              · rw [if_neg c27] at H
                                exact absurd H (by simp)
                            · rw [if_neg c26] at H
                              exact absurd H (by simp)
                          · rw [if_neg c25] at H
                            exact absurd H (by simp)
                        · rw [if_neg c24] at H
                          exact absurd H (by simp)
                    · rw [if_neg c22] at H
                      have c22b0 : (x14_10 == 63) = false := beq_eq_false_iff_ne.mpr c22
                      have c22b1 : (x14_10 != 63) = true := bne_iff_ne.mpr c22
                      by_cases c30 : x14_10 = 42
                      · rw [if_pos c30] at H
                        have c30b0 : (x14_10 == 42) = true := beq_iff_eq.mpr c30
                        have c30b1 : (x14_10 != 42) = false := bne_eq_false_iff_eq.mpr c30
                        clear c30
                        have HC31 := Aside0.mk H
                        clear H
                        go_upto_block 3 with (fail)
                        go_cut [1] (fun v1 wc => ∃ (kq : Nat) (x1_30 : ByteArray), v1 = .string x1_30 ∧ Aside0 (match_match.j4 kq x0_1 x1_30 a2 a3 a4 a5 x17_14 = some r) ∧ Aside0 (kq ≤ kj14) ∧ Aside0 (Below w.heap.size w wc))
                        case first =>
                          have H := HC31.out
                          clear HC31
                          have H' := Aside0.mk H
                          clear H
                          go_wp2
                          try simp only [Act.put, List.setIfInBounds_toArray, List.set_cons_succ, List.set_cons_zero]
                          go_loopg [1] kj14 (fun kq v1 w' => ∃ (x1_4 : ByteArray), v1 = .string x1_4 ∧ Aside0 (match_match.l1 kq x0_1 x1_4 a2 a3 a4 a5 x17_14 = some r) ∧ Aside0 (kq ≤ kj14) ∧ Aside0 (Below w.heap.size w w'))
                          case atStart => exact ⟨(x1_1), (by first | rfl | (simp; done) | (simp [*]; done)), H', ⟨Nat.le_refl _⟩, ⟨by repeat (first | (with_reducible first | exact HB.out | apply below_alloc | apply pw_below_drewN | apply below_drew1) | exact HB.out)⟩⟩
                          case round =>
                            clear H'
                            try clear c1
                            try clear p1
                            try clear q1
                            try clear hx1
                            try clear qi1
                            try clear c2
                            try clear p2
                            try clear c3
                            try clear p3
                            try clear c6
                            try clear c7
                            try clear c7b0
                            try clear c8
                            try clear c8b0
                            try clear c8b1
                            try clear c9
                            try clear c9b0
                            try clear c9b1
                            try clear p10
                            try clear q10
                            try clear hx10
                            try clear qi10
                            try clear c12
                            try clear c12b0
                            try clear c12b1
                            try clear c16
                            try clear c16b0
                            try clear c16b1
                            try clear c17
                            try clear c17b0
                            try clear c17b1
                            try clear p18
                            try clear q18
                            try clear hx18
                            try clear qi18
                            try clear c19
                            try clear c19b0
                            try clear c22
                            try clear c22b0
                            try clear c22b1
                            try clear c23
                            try clear c23b0
                            try clear c23b1
                            try clear c24
                            try clear c24b0
                            try clear c24b1
                            try clear c25
                            try clear c25b0
                            try clear c25b1
                            try clear c26
                            try clear c26b0
                            try clear c26b1
                            try clear c27
                            try clear c27b0
                            try clear c27b1
                            try clear c30
                            try clear c30b0
                            try clear c30b1
                            try clear p1
                            try clear p10
                            try clear p18
                            try clear p2
                            try clear p3
                            try clear q1
                            try clear q10
                            try clear q18
                            obtain ⟨x1_4, rfl, HA, HK4, HB⟩ := hrel
                            cases gk with
                            | zero => exact absurd HA.out (by simp [match_match.l1])
                            | succ k4 =>
                              have H := HA.out
                              clear HA
                              simp only [match_match.l1] at H
                              by_cases c32 : (x1_4.size : Int) > 1
                              · rw [if_pos c32] at H
                                have c32b0 : decide (1 < (x1_4.size : Int)) = true := decide_eq_true c32
                                have c32b1 : decide (1 < x1_4.size) = true := decide_eq_true (by omega)
                                clear c32
                                (first | rw [c32b0] | (simp only [i64_w, i32_w]; rw [c32b0]) | rw [c32b1] | skip)
                                by_cases c33 : 1 < (x1_4.size : Int)
                                · rw [if_pos c33] at H
                                  have c33b0 : decide (1 < (x1_4.size : Int)) = true := decide_eq_true c33
                                  have c33b1 : decide (1 < x1_4.size) = true := decide_eq_true (by omega)
                                  clear c33
                                  by_cases c35 : (bt x1_4 1) = 42
                                  · rw [if_pos c35] at H
                                    have c35b0 : ((bt x1_4 1) == 42) = true := beq_iff_eq.mpr c35
                                    have c35b1 : ((bt x1_4 1) != 42) = false := bne_eq_false_iff_eq.mpr c35
                                    clear c35
                                    by_cases c36 : 1 ≤ (x1_4.size : Int)
                                    · rw [if_pos c36] at H
                                      have c36b0 := eq_true c36
                                      have c36b1 : decide (1 ≤ (x1_4.size : Int)) = true := decide_eq_true c36
                                      clear c36
                                      as_aux_lemma =>
                                        have H' := Aside0.mk H
                                        clear H
                                        have p34 : 0 ≤ (1 : Int) := (by omega)
                                        have q34 : 1 < x1_4.size := (by have : (1 : Int) < (x1_4.size : Int) := of_decide_eq_true (by first | (with_reducible assumption) | assumption); omega)
                                        have hx34 : ∀ h : 1 < x1_4.size, ((x1_4[1]'h).toNat : Int) = bt x1_4 1 := bt_at x1_4 1
                                        clear p34
                                        have qi34 : (1 < (x1_4.size : Int)) = True := eq_true (of_decide_eq_true (by first | (with_reducible assumption) | assumption))
                                        replace q34 := eq_true q34
                                        try have hcs37 := fun W_ : World => run_slice_string_l (P := Tryd.prog) W_ 9 x1_4 Tryd.underlying9 .i64 1 (by omega) (of_decide_eq_true (by first | (with_reducible assumption) | assumption))
                                        go_wp2
                                        go_roundg k4
                                        case measure => have := HK1.out; have := HJ10.out; have := HJ14.out; have := HK4.out; omega
                                        case rel => exact ⟨(x1_4.extract 1 x1_4.size), (by first | rfl | (simp; done) | (simp [*]; done)), H', ⟨by have := HK1.out; have := HJ10.out; have := HJ14.out; have := HK4.out; omega⟩, ⟨by repeat (first | (with_reducible first | exact HB.out | apply below_alloc | apply pw_below_drewN | apply below_drew1) | exact HB.out)⟩⟩
                                    · rw [if_neg c36] at H
                                      exact absurd H (by simp)
                                  · rw [if_neg c35] at H
                                    have c35b0 : ((bt x1_4 1) == 42) = false := beq_eq_false_iff_ne.mpr c35
                                    have c35b1 : ((bt x1_4 1) != 42) = true := bne_iff_ne.mpr c35
                                    as_aux_lemma =>
                                      have H' := Aside0.mk H
                                      clear H
                                      have p34 : 0 ≤ (1 : Int) := (by omega)
                                      have q34 : 1 < x1_4.size := (by have : (1 : Int) < (x1_4.size : Int) := of_decide_eq_true (by first | (with_reducible assumption) | assumption); omega)
                                      have hx34 : ∀ h : 1 < x1_4.size, ((x1_4[1]'h).toNat : Int) = bt x1_4 1 := bt_at x1_4 1
                                      clear p34
                                      have qi34 : (1 < (x1_4.size : Int)) = True := eq_true (of_decide_eq_true (by first | (with_reducible assumption) | assumption))
                                      replace q34 := eq_true q34
                                      go_wp2
                                      go_meet
                                      case rel => exact ⟨_, (x1_4), (by first | rfl | (simp; done) | (simp [*]; done)), H', ⟨by have := HK1.out; have := HJ10.out; have := HJ14.out; have := HK4.out; first | omega | exact Nat.le_refl _⟩, ⟨by repeat (first | (with_reducible first | exact HB.out | apply below_alloc | apply pw_below_drewN | apply below_drew1) | exact HB.out)⟩⟩
                                · rw [if_neg c33] at H
                                  exact absurd H (by simp)
                              · rw [if_neg c32] at H
                                have c32b0 : decide (1 < (x1_4.size : Int)) = false := decide_eq_false c32
                                have c32b1 : decide (1 < x1_4.size) = false := decide_eq_false (by omega)
                                clear c32
                                (first | rw [c32b0] | (simp only [i64_w, i32_w]; rw [c32b0]) | rw [c32b1] | skip)
                                as_aux_lemma =>
                                  have H' := Aside0.mk H
                                  clear H
                                  go_wp2
                                  go_meet
                                  case rel => exact ⟨_, (x1_4), (by first | rfl | (simp; done) | (simp [*]; done)), H', ⟨by have := HK1.out; have := HJ10.out; have := HJ14.out; have := HK4.out; first | omega | exact Nat.le_refl _⟩, ⟨by repeat (first | (with_reducible first | exact HB.out | apply below_alloc | apply pw_below_drewN | apply below_drew1) | exact HB.out)⟩⟩
                        case rest =>
                          clear HC31
                          try clear c1
                          try clear p1
                          try clear q1
                          try clear hx1
                          try clear qi1
                          try clear c2
                          try clear p2
                          try clear c3
                          try clear p3
                          try clear q3
                          try clear hx3
                          try clear qi3
                          try clear c6
                          try clear c7
                          try clear c7b0
                          try clear c8
                          try clear c8b0
                          try clear c8b1
                          try clear c9
                          try clear c9b0
                          try clear c9b1
                          try clear p10
                          try clear q10
                          try clear hx10
                          try clear qi10
                          try clear c12
                          try clear c12b0
                          try clear c12b1
                          try clear c16
                          try clear c16b0
                          try clear c16b1
                          try clear c17
                          try clear c17b0
                          try clear c17b1
                          try clear p18
                          try clear q18
                          try clear hx18
                          try clear qi18
                          try clear c19
                          try clear c19b0
                          try clear c22
                          try clear c22b0
                          try clear c22b1
                          try clear c23
                          try clear c23b0
                          try clear c23b1
                          try clear c24
                          try clear c24b0
                          try clear c24b1
                          try clear c25
                          try clear c25b0
                          try clear c25b1
                          try clear c26
                          try clear c26b0
                          try clear c26b1
                          try clear c27
                          try clear c27b0
                          try clear c27b1
                          try clear c30
                          try clear c30b0
                          try clear c30b1
                          try clear c32
                          try clear c32b0
                          try clear c32b1
                          try clear p32
                          try clear c33
                          try clear c33b0
                          try clear c33b1
                          try clear p34
                          try clear q34
                          try clear hx34
                          try clear qi34
                          try clear c35
                          try clear c35b0
                          try clear c35b1
                          try clear c36
                          try clear c36b0
                          try clear c36b1
                          try clear p1
                          try clear p10
                          try clear p18
                          try clear p2
                          try clear p3
                          try clear p34
                          try clear q1
                          try clear q10
                          try clear q18
                          try clear q34
                          obtain ⟨kq, x1_30, rfl, HA, HJ30, HB⟩ := hcut
                          cases kq with
                          | zero => exact absurd HA.out (by simp [match_match.j4])
                          | succ kj30 =>
                            have H := HA.out
                            clear HA
                            simp only [match_match.j4] at H
                            by_cases c38 : (x1_30.size : Int) = 1
                            · rw [if_pos c38] at H
                              have c38b0 : ((x1_30.size : Int) == 1) = true := beq_iff_eq.mpr c38
                              have c38b1 : ((x1_30.size : Int) != 1) = false := bne_eq_false_iff_eq.mpr c38
                              clear c38
                              as_aux_lemma =>
                                obtain rfl := Option.some.inj H
                                go_wp2
                                go_ret
                                exact ⟨by first | rfl | (simp [errW_none, errW_some] <;> rfl) | (simp [*, errW_none, errW_some] <;> rfl), by repeat (first | (with_reducible first | exact HB.out | apply below_alloc | apply pw_below_drewN | apply below_drew1) | exact HB.out)⟩
                            · rw [if_neg c38] at H
                              have c38b0 : ((x1_30.size : Int) == 1) = false := beq_eq_false_iff_ne.mpr c38
                              have c38b1 : ((x1_30.size : Int) != 1) = true := bne_iff_ne.mpr c38
                              replace H := Option.bind_eq_some_iff.mp H
                              obtain ⟨⟨t128, t129, t130⟩, A390, H⟩ := H
                              replace H : (if t130 = true then (if (t129.size : Int) = 1 then (some 1) else (if 1 ≤ (t129.size : Int) then ((match_match.f kj30 t128 (t129.extract 1 t129.size) a2 a3 a4 a5).bind fun t131 => (if t131 = 0 then (if (t128.size : Int) = 0 then (some 0) else (if 0 ≤ x17_14 then (if x17_14 ≤ (t128.size : Int) then (match_match.l0 kj30 (t128.extract (x17_14 : Int).toNat t128.size) t129 a2 a3 a4 a5) else (none)) else (none))) else (some t131))) else (none))) else (some 0)) = some r := H
                              have A39 := Aside0.mk A390
                              clear A390
                              by_cases c40 : t130 = true
                              · subst c40
                                have H1 : (if (t129.size : Int) = 1 then (some 1) else (if 1 ≤ (t129.size : Int) then ((match_match.f kj30 t128 (t129.extract 1 t129.size) a2 a3 a4 a5).bind fun t131 => (if t131 = 0 then (if (t128.size : Int) = 0 then (some 0) else (if 0 ≤ x17_14 then (if x17_14 ≤ (t128.size : Int) then (match_match.l0 kj30 (t128.extract (x17_14 : Int).toNat t128.size) t129 a2 a3 a4 a5) else (none)) else (none))) else (some t131))) else (none))) = some r := by rw [if_pos rfl] at H; exact H
                                clear H
                                have H := H1
                                clear H1
                                by_cases c41 : (t129.size : Int) = 1
                                · rw [if_pos c41] at H
                                  have c41b0 : ((t129.size : Int) == 1) = true := beq_iff_eq.mpr c41
                                  have c41b1 : ((t129.size : Int) != 1) = false := bne_eq_false_iff_eq.mpr c41
                                  clear c41
                                  as_aux_lemma =>
                                    obtain rfl := Option.some.inj H
                                    go_wp2_with (first | ((with_reducible refine gate_callee (f := 83) rfl ?_); refine goesL_ (some 106) rfl rfl Tryd.func83 (by kernel_rfl) rfl #[.string x0_1, .string x1_30, .bool a5] rfl (by (try simp only [List.map_toArray, List.map_cons, List.map_nil]); first | done | rfl | (simp only [List.length_drop, List.length_take]; rfl)) ?_; (with_reducible refine (match_matchTrimSuffix.calls kj30 x0_1 x1_30 a5 t128 t129 true _ ?side1 ?side2 A39.out).mono ?_); (case side1 => repeat (first | exact Kd.C_below HRG4.out (by repeat (first | (with_reducible first | exact HB.out | apply below_alloc | apply pw_below_drewN | apply below_drew1) | exact HB.out)) | exact HRG4.out | (with_reducible refine Kd.C_alloc ?_ _) | (with_reducible refine Kd.C_drewN ?_ _) | (with_reducible refine Kd.C_drew ?_))); (case side2 => repeat (first | exact Kd.C_below HRG5.out (by repeat (first | (with_reducible first | exact HB.out | apply below_alloc | apply pw_below_drewN | apply below_drew1) | exact HB.out)) | exact HRG5.out | (with_reducible refine Kd.C_alloc ?_ _) | (with_reducible refine Kd.C_drewN ?_ _) | (with_reducible refine Kd.C_drew ?_))); rintro e w42 ⟨rfl, hb⟩; refine ⟨_, rfl, ?_⟩; have n0_ := Aside0.mk (below_step (by repeat (first | (with_reducible first | exact HB.out | apply below_alloc | apply pw_below_drewN | apply below_drew1) | exact HB.out)) hb); clear HB; have HB := n0_; clear n0_; (try clear hb); (try clear hb2); (try clear hk); (try clear hi)))
                                    go_ret
                                    exact ⟨by first | rfl | (simp [errW_none, errW_some] <;> rfl) | (simp [*, errW_none, errW_some] <;> rfl), by repeat (first | (with_reducible first | exact HB.out | apply below_alloc | apply pw_below_drewN | apply below_drew1) | exact HB.out)⟩
                                · rw [if_neg c41] at H
                                  have c41b0 : ((t129.size : Int) == 1) = false := beq_eq_false_iff_ne.mpr c41
                                  have c41b1 : ((t129.size : Int) != 1) = true := bne_iff_ne.mpr c41
                                  by_cases c43 : 1 ≤ (t129.size : Int)
                                  · rw [if_pos c43] at H
                                    have c43b0 := eq_true c43
                                    have c43b1 : decide (1 ≤ (t129.size : Int)) = true := decide_eq_true c43
                                    clear c43
                                    replace H := Option.bind_eq_some_iff.mp H
                                    obtain ⟨t131, A440, H⟩ := H
                                    replace H : (if t131 = 0 then (if (t128.size : Int) = 0 then (some 0) else (if 0 ≤ x17_14 then (if x17_14 ≤ (t128.size : Int) then (match_match.l0 kj30 (t128.extract (x17_14 : Int).toNat t128.size) t129 a2 a3 a4 a5) else (none)) else (none))) else (some t131)) = some r := H
                                    have A44 := Aside0.mk A440
                                    clear A440
                                    by_cases c45 : t131 = 0
                                    · rw [if_pos c45] at H
                                      have c45b0 : (t131 == 0) = true := beq_iff_eq.mpr c45
                                      have c45b1 : (t131 != 0) = false := bne_eq_false_iff_eq.mpr c45
                                      clear c45
                                      by_cases c46 : (t128.size : Int) = 0
                                      · rw [if_pos c46] at H
                                        have c46b0 : ((t128.size : Int) == 0) = true := beq_iff_eq.mpr c46
                                        have c46b1 : ((t128.size : Int) != 0) = false := bne_eq_false_iff_eq.mpr c46
                                        clear c46
                                        as_aux_lemma =>
                                          obtain rfl := Option.some.inj H
                                          go_wp2_with (first | ((with_reducible refine gate_callee (f := 83) rfl ?_); refine goesL_ (some 106) rfl rfl Tryd.func83 (by kernel_rfl) rfl #[.string x0_1, .string x1_30, .bool a5] rfl (by (try simp only [List.map_toArray, List.map_cons, List.map_nil]); first | done | rfl | (simp only [List.length_drop, List.length_take]; rfl)) ?_; (with_reducible refine (match_matchTrimSuffix.calls kj30 x0_1 x1_30 a5 t128 t129 true _ ?side1 ?side2 A39.out).mono ?_); (case side1 => repeat (first | exact Kd.C_below HRG4.out (by repeat (first | (with_reducible first | exact HB.out | apply below_alloc | apply pw_below_drewN | apply below_drew1) | exact HB.out)) | exact HRG4.out | (with_reducible refine Kd.C_alloc ?_ _) | (with_reducible refine Kd.C_drewN ?_ _) | (with_reducible refine Kd.C_drew ?_))); (case side2 => repeat (first | exact Kd.C_below HRG5.out (by repeat (first | (with_reducible first | exact HB.out | apply below_alloc | apply pw_below_drewN | apply below_drew1) | exact HB.out)) | exact HRG5.out | (with_reducible refine Kd.C_alloc ?_ _) | (with_reducible refine Kd.C_drewN ?_ _) | (with_reducible refine Kd.C_drew ?_))); rintro e w47 ⟨rfl, hb⟩; refine ⟨_, rfl, ?_⟩; have n0_ := Aside0.mk (below_step (by repeat (first | (with_reducible first | exact HB.out | apply below_alloc | apply pw_below_drewN | apply below_drew1) | exact HB.out)) hb); clear HB; have HB := n0_; clear n0_; (try clear hb); (try clear hb2); (try clear hk); (try clear hi); try have hcs48 := fun W_ : World => run_slice_string_l (P := Tryd.prog) W_ 9 t129 Tryd.underlying9 .i64 1 (by omega) (of_decide_eq_true (by first | (with_reducible assumption) | assumption))) | ((with_reducible refine gate_callee (f := 68) rfl ?_); refine goesL_ (some 122) rfl rfl Tryd.func68 (by kernel_rfl) rfl #[.string t128, .string (t129.extract 1 t129.size), .int .i64 a2, .pointer none, .int .i64 a4, .bool a5] rfl (by (try simp only [List.map_toArray, List.map_cons, List.map_nil]); first | done | rfl | (simp only [List.length_drop, List.length_take]; rfl)) ?_; (with_reducible refine (ih kj30 (by have := HK1.out; have := HJ10.out; have := HJ14.out; have := HJ30.out; omega) t128 (t129.extract 1 t129.size) a2 a3 a4 a5 t131 _ ?side1 ?side2 A44.out).mono ?_); (case side1 => repeat (first | exact Kd.C_below HRG4.out (by repeat (first | (with_reducible first | exact HB.out | apply below_alloc | apply pw_below_drewN | apply below_drew1) | exact HB.out)) | exact HRG4.out | (with_reducible refine Kd.C_alloc ?_ _) | (with_reducible refine Kd.C_drewN ?_ _) | (with_reducible refine Kd.C_drew ?_))); (case side2 => repeat (first | exact Kd.C_below HRG5.out (by repeat (first | (with_reducible first | exact HB.out | apply below_alloc | apply pw_below_drewN | apply below_drew1) | exact HB.out)) | exact HRG5.out | (with_reducible refine Kd.C_alloc ?_ _) | (with_reducible refine Kd.C_drewN ?_ _) | (with_reducible refine Kd.C_drew ?_))); rintro e w49 ⟨rfl, hb⟩; refine ⟨_, rfl, ?_⟩; have n0_ := Aside0.mk (below_step (by repeat (first | (with_reducible first | exact HB.out | apply below_alloc | apply pw_below_drewN | apply below_drew1) | exact HB.out)) hb); clear HB; have HB := n0_; clear n0_; (try clear hb); (try clear hb2); (try clear hk); (try clear hi)))
                                          go_ret
                                          exact ⟨by first | rfl | (simp [errW_none, errW_some] <;> rfl) | (simp [*, errW_none, errW_some] <;> rfl), by repeat (first | (with_reducible first | exact HB.out | apply below_alloc | apply pw_below_drewN | apply below_drew1) | exact HB.out)⟩
                                      · rw [if_neg c46] at H
                                        have c46b0 : ((t128.size : Int) == 0) = false := beq_eq_false_iff_ne.mpr c46
                                        have c46b1 : ((t128.size : Int) != 0) = true := bne_iff_ne.mpr c46
                                        by_cases c50 : 0 ≤ x17_14
                                        · rw [if_pos c50] at H
                                          have c50b0 := eq_true c50
                                          have c50b1 : decide (0 ≤ x17_14) = true := decide_eq_true c50
                                          clear c50
                                          by_cases c51 : x17_14 ≤ (t128.size : Int)
                                          · rw [if_pos c51] at H
                                            have c51b0 := eq_true c51
                                            have c51b1 : decide (x17_14 ≤ (t128.size : Int)) = true := decide_eq_true c51
                                            clear c51
                                            as_aux_lemma =>
                                              have H' := Aside0.mk H
                                              clear H
                                              go_wp2_with (first | ((with_reducible refine gate_callee (f := 83) rfl ?_); refine goesL_ (some 106) rfl rfl Tryd.func83 (by kernel_rfl) rfl #[.string x0_1, .string x1_30, .bool a5] rfl (by (try simp only [List.map_toArray, List.map_cons, List.map_nil]); first | done | rfl | (simp only [List.length_drop, List.length_take]; rfl)) ?_; (with_reducible refine (match_matchTrimSuffix.calls kj30 x0_1 x1_30 a5 t128 t129 true _ ?side1 ?side2 A39.out).mono ?_); (case side1 => repeat (first | exact Kd.C_below HRG4.out (by repeat (first | (with_reducible first | exact HB.out | apply below_alloc | apply pw_below_drewN | apply below_drew1) | exact HB.out)) | exact HRG4.out | (with_reducible refine Kd.C_alloc ?_ _) | (with_reducible refine Kd.C_drewN ?_ _) | (with_reducible refine Kd.C_drew ?_))); (case side2 => repeat (first | exact Kd.C_below HRG5.out (by repeat (first | (with_reducible first | exact HB.out | apply below_alloc | apply pw_below_drewN | apply below_drew1) | exact HB.out)) | exact HRG5.out | (with_reducible refine Kd.C_alloc ?_ _) | (with_reducible refine Kd.C_drewN ?_ _) | (with_reducible refine Kd.C_drew ?_))); rintro e w52 ⟨rfl, hb⟩; refine ⟨_, rfl, ?_⟩; have n0_ := Aside0.mk (below_step (by repeat (first | (with_reducible first | exact HB.out | apply below_alloc | apply pw_below_drewN | apply below_drew1) | exact HB.out)) hb); clear HB; have HB := n0_; clear n0_; (try clear hb); (try clear hb2); (try clear hk); (try clear hi); try have hcs53 := fun W_ : World => run_slice_string_l (P := Tryd.prog) W_ 9 t129 Tryd.underlying9 .i64 1 (by omega) (of_decide_eq_true (by first | (with_reducible assumption) | assumption))) | ((with_reducible refine gate_callee (f := 68) rfl ?_); refine goesL_ (some 122) rfl rfl Tryd.func68 (by kernel_rfl) rfl #[.string t128, .string (t129.extract 1 t129.size), .int .i64 a2, .pointer none, .int .i64 a4, .bool a5] rfl (by (try simp only [List.map_toArray, List.map_cons, List.map_nil]); first | done | rfl | (simp only [List.length_drop, List.length_take]; rfl)) ?_; (with_reducible refine (ih kj30 (by have := HK1.out; have := HJ10.out; have := HJ14.out; have := HJ30.out; omega) t128 (t129.extract 1 t129.size) a2 a3 a4 a5 t131 _ ?side1 ?side2 A44.out).mono ?_); (case side1 => repeat (first | exact Kd.C_below HRG4.out (by repeat (first | (with_reducible first | exact HB.out | apply below_alloc | apply pw_below_drewN | apply below_drew1) | exact HB.out)) | exact HRG4.out | (with_reducible refine Kd.C_alloc ?_ _) | (with_reducible refine Kd.C_drewN ?_ _) | (with_reducible refine Kd.C_drew ?_))); (case side2 => repeat (first | exact Kd.C_below HRG5.out (by repeat (first | (with_reducible first | exact HB.out | apply below_alloc | apply pw_below_drewN | apply below_drew1) | exact HB.out)) | exact HRG5.out | (with_reducible refine Kd.C_alloc ?_ _) | (with_reducible refine Kd.C_drewN ?_ _) | (with_reducible refine Kd.C_drew ?_))); rintro e w54 ⟨rfl, hb⟩; refine ⟨_, rfl, ?_⟩; have n0_ := Aside0.mk (below_step (by repeat (first | (with_reducible first | exact HB.out | apply below_alloc | apply pw_below_drewN | apply below_drew1) | exact HB.out)) hb); clear HB; have HB := n0_; clear n0_; (try clear hb); (try clear hb2); (try clear hk); (try clear hi); try have hcs55 := fun W_ : World => run_slice_string_l (P := Tryd.prog) W_ 9 t128 Tryd.underlying9 .i64 x17_14 (of_decide_eq_true (by first | (with_reducible assumption) | assumption)) (of_decide_eq_true (by first | (with_reducible assumption) | assumption))))
                                              go_roundg kj30
                                              case measure => have := HK1.out; have := HJ10.out; have := HJ14.out; have := HJ30.out; omega
                                              case rel => exact ⟨(t128.extract (x17_14 : Int).toNat t128.size), (t129), (by first | rfl | (simp; done) | (simp [*]; done)), (by first | rfl | (simp; done) | (simp [*]; done)), H', ⟨by have := HK1.out; have := HJ10.out; have := HJ14.out; have := HJ30.out; omega⟩, ⟨by repeat (first | (with_reducible first | exact HB.out | apply below_alloc | apply pw_below_drewN | apply below_drew1) | exact HB.out)⟩⟩
                                          · rw [if_neg c51] at H
                                            exact absurd H (by simp)
                                        · rw [if_neg c50] at H
                                          exact absurd H (by simp)
                                    · rw [if_neg c45] at H
                                      have c45b0 : (t131 == 0) = false := beq_eq_false_iff_ne.mpr c45
                                      have c45b1 : (t131 != 0) = true := bne_iff_ne.mpr c45
                                      as_aux_lemma =>
                                        obtain rfl := Option.some.inj H
                                        go_wp2_with (first | ((with_reducible refine gate_callee (f := 83) rfl ?_); refine goesL_ (some 106) rfl rfl Tryd.func83 (by kernel_rfl) rfl #[.string x0_1, .string x1_30, .bool a5] rfl (by (try simp only [List.map_toArray, List.map_cons, List.map_nil]); first | done | rfl | (simp only [List.length_drop, List.length_take]; rfl)) ?_; (with_reducible refine (match_matchTrimSuffix.calls kj30 x0_1 x1_30 a5 t128 t129 true _ ?side1 ?side2 A39.out).mono ?_); (case side1 => repeat (first | exact Kd.C_below HRG4.out (by repeat (first | (with_reducible first | exact HB.out | apply below_alloc | apply pw_below_drewN | apply below_drew1) | exact HB.out)) | exact HRG4.out | (with_reducible refine Kd.C_alloc ?_ _) | (with_reducible refine Kd.C_drewN ?_ _) | (with_reducible refine Kd.C_drew ?_))); (case side2 => repeat (first | exact Kd.C_below HRG5.out (by repeat (first | (with_reducible first | exact HB.out | apply below_alloc | apply pw_below_drewN | apply below_drew1) | exact HB.out)) | exact HRG5.out | (with_reducible refine Kd.C_alloc ?_ _) | (with_reducible refine Kd.C_drewN ?_ _) | (with_reducible refine Kd.C_drew ?_))); rintro e w56 ⟨rfl, hb⟩; refine ⟨_, rfl, ?_⟩; have n0_ := Aside0.mk (below_step (by repeat (first | (with_reducible first | exact HB.out | apply below_alloc | apply pw_below_drewN | apply below_drew1) | exact HB.out)) hb); clear HB; have HB := n0_; clear n0_; (try clear hb); (try clear hb2); (try clear hk); (try clear hi); try have hcs57 := fun W_ : World => run_slice_string_l (P := Tryd.prog) W_ 9 t129 Tryd.underlying9 .i64 1 (by omega) (of_decide_eq_true (by first | (with_reducible assumption) | assumption))) | ((with_reducible refine gate_callee (f := 68) rfl ?_); refine goesL_ (some 122) rfl rfl Tryd.func68 (by kernel_rfl) rfl #[.string t128, .string (t129.extract 1 t129.size), .int .i64 a2, .pointer none, .int .i64 a4, .bool a5] rfl (by (try simp only [List.map_toArray, List.map_cons, List.map_nil]); first | done | rfl | (simp only [List.length_drop, List.length_take]; rfl)) ?_; (with_reducible refine (ih kj30 (by have := HK1.out; have := HJ10.out; have := HJ14.out; have := HJ30.out; omega) t128 (t129.extract 1 t129.size) a2 a3 a4 a5 t131 _ ?side1 ?side2 A44.out).mono ?_); (case side1 => repeat (first | exact Kd.C_below HRG4.out (by repeat (first | (with_reducible first | exact HB.out | apply below_alloc | apply pw_below_drewN | apply below_drew1) | exact HB.out)) | exact HRG4.out | (with_reducible refine Kd.C_alloc ?_ _) | (with_reducible refine Kd.C_drewN ?_ _) | (with_reducible refine Kd.C_drew ?_))); (case side2 => repeat (first | exact Kd.C_below HRG5.out (by repeat (first | (with_reducible first | exact HB.out | apply below_alloc | apply pw_below_drewN | apply below_drew1) | exact HB.out)) | exact HRG5.out | (with_reducible refine Kd.C_alloc ?_ _) | (with_reducible refine Kd.C_drewN ?_ _) | (with_reducible refine Kd.C_drew ?_))); rintro e w58 ⟨rfl, hb⟩; refine ⟨_, rfl, ?_⟩; have n0_ := Aside0.mk (below_step (by repeat (first | (with_reducible first | exact HB.out | apply below_alloc | apply pw_below_drewN | apply below_drew1) | exact HB.out)) hb); clear HB; have HB := n0_; clear n0_; (try clear hb); (try clear hb2); (try clear hk); (try clear hi)))
                                        go_ret
                                        exact ⟨by first | rfl | (simp [errW_none, errW_some] <;> rfl) | (simp [*, errW_none, errW_some] <;> rfl), by repeat (first | (with_reducible first | exact HB.out | apply below_alloc | apply pw_below_drewN | apply below_drew1) | exact HB.out)⟩
                                  · rw [if_neg c43] at H
                                    exact absurd H (by simp)
                              · replace c40 := Bool.eq_false_iff.mpr c40
                                subst c40
                                have H1 : (some 0) = some r := by rw [if_neg (show ¬ (false = true) by decide)] at H; exact H
                                clear H
                                have H := H1
                                clear H1
                                as_aux_lemma =>
                                  obtain rfl := Option.some.inj H
                                  go_wp2_with (first | ((with_reducible refine gate_callee (f := 83) rfl ?_); refine goesL_ (some 106) rfl rfl Tryd.func83 (by kernel_rfl) rfl #[.string x0_1, .string x1_30, .bool a5] rfl (by (try simp only [List.map_toArray, List.map_cons, List.map_nil]); first | done | rfl | (simp only [List.length_drop, List.length_take]; rfl)) ?_; (with_reducible refine (match_matchTrimSuffix.calls kj30 x0_1 x1_30 a5 t128 t129 false _ ?side1 ?side2 A39.out).mono ?_); (case side1 => repeat (first | exact Kd.C_below HRG4.out (by repeat (first | (with_reducible first | exact HB.out | apply below_alloc | apply pw_below_drewN | apply below_drew1) | exact HB.out)) | exact HRG4.out | (with_reducible refine Kd.C_alloc ?_ _) | (with_reducible refine Kd.C_drewN ?_ _) | (with_reducible refine Kd.C_drew ?_))); (case side2 => repeat (first | exact Kd.C_below HRG5.out (by repeat (first | (with_reducible first | exact HB.out | apply below_alloc | apply pw_below_drewN | apply below_drew1) | exact HB.out)) | exact HRG5.out | (with_reducible refine Kd.C_alloc ?_ _) | (with_reducible refine Kd.C_drewN ?_ _) | (with_reducible refine Kd.C_drew ?_))); rintro e w59 ⟨rfl, hb⟩; refine ⟨_, rfl, ?_⟩; have n0_ := Aside0.mk (below_step (by repeat (first | (with_reducible first | exact HB.out | apply below_alloc | apply pw_below_drewN | apply below_drew1) | exact HB.out)) hb); clear HB; have HB := n0_; clear n0_; (try clear hb); (try clear hb2); (try clear hk); (try clear hi)))
                                  go_ret
                                  exact ⟨by first | rfl | (simp [errW_none, errW_some] <;> rfl) | (simp [*, errW_none, errW_some] <;> rfl), by repeat (first | (with_reducible first | exact HB.out | apply below_alloc | apply pw_below_drewN | apply below_drew1) | exact HB.out)⟩
                      · rw [if_neg c30] at H
                        have c30b0 : (x14_10 == 42) = false := beq_eq_false_iff_ne.mpr c30
                        have c30b1 : (x14_10 != 42) = true := bne_iff_ne.mpr c30
                        by_cases c60 : x17_14 = 0
                        · rw [if_pos c60] at H
                          have c60b0 : (x17_14 == 0) = true := beq_iff_eq.mpr c60
                          have c60b1 : (x17_14 != 0) = false := bne_eq_false_iff_eq.mpr c60
                          clear c60
                          as_aux_lemma =>
                            obtain rfl := Option.some.inj H
                            go_wp2
                            go_ret
                            exact ⟨by first | rfl | (simp [errW_none, errW_some] <;> rfl) | (simp [*, errW_none, errW_some] <;> rfl), by repeat (first | (with_reducible first | exact HB.out | apply below_alloc | apply pw_below_drewN | apply below_drew1) | exact HB.out)⟩
                        · rw [if_neg c60] at H
                          have c60b0 : (x17_14 == 0) = false := beq_eq_false_iff_ne.mpr c60
                          have c60b1 : (x17_14 != 0) = true := bne_iff_ne.mpr c60
                          have HC61 := Aside0.mk H
                          clear H
                          go_upto_if 64 with (fail)
                          go_cut [1, 14, 15] (fun v1 v14 v15 wc => ∃ (kq : Nat) (x1_60 : ByteArray) (x14_60 : Int) (x15_60 : Int), v1 = .string x1_60 ∧ v14 = .int .i32 x14_60 ∧ v15 = .int .i64 x15_60 ∧ Aside0 (match_match.j5 kq x0_1 x1_60 a2 a3 a4 a5 false x14_60 x15_60 x16_14 x17_14 = some r) ∧ Aside0 (kq ≤ kj14) ∧ Aside0 (Below w.heap.size w wc))
                          case first =>
                            have H := HC61.out
                            clear HC61
                            by_cases c62 : x14_10 = 92
                            · rw [if_pos c62] at H
                              have c62b0 : (x14_10 == 92) = true := beq_iff_eq.mpr c62
                              have c62b1 : (x14_10 != 92) = false := bne_eq_false_iff_eq.mpr c62
                              clear c62
                              (first | rw [c62b0] | (simp only [i64_w, i32_w]; rw [c62b0]) | rw [c62b1] | skip)
                              by_cases c63 : 0 ≤ x15_10
                              · rw [if_pos c63] at H
                                have c63b0 := eq_true c63
                                have c63b1 : decide (0 ≤ x15_10) = true := decide_eq_true c63
                                clear c63
                                by_cases c64 : x15_10 ≤ (x1_1.size : Int)
                                · rw [if_pos c64] at H
                                  have c64b0 := eq_true c64
                                  have c64b1 : decide (x15_10 ≤ (x1_1.size : Int)) = true := decide_eq_true c64
                                  clear c64
                                  replace H := Option.bind_eq_some_iff.mp H
                                  obtain ⟨⟨t132, t133⟩, A650, H⟩ := H
                                  replace H : (if t133 = 0 then (some 0) else (match_match.j5 kj14 x0_1 (x1_1.extract (x15_10 : Int).toNat x1_1.size) a2 a3 a4 a5 false t132 t133 x16_14 x17_14)) = some r := H
                                  have A65 := Aside0.mk A650
                                  clear A650
                                  by_cases c66 : t133 = 0
                                  · rw [if_pos c66] at H
                                    have c66b0 : (t133 == 0) = true := beq_iff_eq.mpr c66
                                    have c66b1 : (t133 != 0) = false := bne_eq_false_iff_eq.mpr c66
                                    clear c66
                                    as_aux_lemma =>
                                      obtain rfl := Option.some.inj H
                                      try have hcs67 := fun W_ : World => run_slice_string_l (P := Tryd.prog) W_ 9 x1_1 Tryd.underlying9 .i64 x15_10 (of_decide_eq_true (by first | (with_reducible assumption) | assumption)) (of_decide_eq_true (by first | (with_reducible assumption) | assumption))
                                      go_wp2_with (first | ((with_reducible refine gate_callee (f := 82) rfl ?_); refine goesL_ (some 70) rfl rfl Tryd.func82 (by kernel_rfl) rfl #[.string (x1_1.extract (x15_10 : Int).toNat x1_1.size)] rfl (by (try simp only [List.map_toArray, List.map_cons, List.map_nil]); first | done | rfl | (simp only [List.length_drop, List.length_take]; rfl)) ?_; (with_reducible refine (utf8_DecodeRuneInString.calls kj14 (x1_1.extract (x15_10 : Int).toNat x1_1.size) t132 t133 _ ?side1 ?side2 A65.out).mono ?_); (case side1 => repeat (first | exact Kd.C_below HRG4.out (by repeat (first | (with_reducible first | exact HB.out | apply below_alloc | apply pw_below_drewN | apply below_drew1) | exact HB.out)) | exact HRG4.out | (with_reducible refine Kd.C_alloc ?_ _) | (with_reducible refine Kd.C_drewN ?_ _) | (with_reducible refine Kd.C_drew ?_))); (case side2 => repeat (first | exact Kd.C_below HRG5.out (by repeat (first | (with_reducible first | exact HB.out | apply below_alloc | apply pw_below_drewN | apply below_drew1) | exact HB.out)) | exact HRG5.out | (with_reducible refine Kd.C_alloc ?_ _) | (with_reducible refine Kd.C_drewN ?_ _) | (with_reducible refine Kd.C_drew ?_))); rintro e w68 ⟨rfl, hb⟩; refine ⟨_, rfl, ?_⟩; have n0_ := Aside0.mk (below_step (by repeat (first | (with_reducible first | exact HB.out | apply below_alloc | apply pw_below_drewN | apply below_drew1) | exact HB.out)) hb); clear HB; have HB := n0_; clear n0_; (try clear hb); (try clear hb2); (try clear hk); (try clear hi)))
                                      go_ret
                                      exact ⟨by first | rfl | (simp [errW_none, errW_some] <;> rfl) | (simp [*, errW_none, errW_some] <;> rfl), by repeat (first | (with_reducible first | exact HB.out | apply below_alloc | apply pw_below_drewN | apply below_drew1) | exact HB.out)⟩
                                  · rw [if_neg c66] at H
                                    have c66b0 : (t133 == 0) = false := beq_eq_false_iff_ne.mpr c66
                                    have c66b1 : (t133 != 0) = true := bne_iff_ne.mpr c66
                                    as_aux_lemma =>
                                      have H' := Aside0.mk H
                                      clear H
                                      try have hcs69 := fun W_ : World => run_slice_string_l (P := Tryd.prog) W_ 9 x1_1 Tryd.underlying9 .i64 x15_10 (of_decide_eq_true (by first | (with_reducible assumption) | assumption)) (of_decide_eq_true (by first | (with_reducible assumption) | assumption))
                                      go_wp2_with (first | ((with_reducible refine gate_callee (f := 82) rfl ?_); refine goesL_ (some 70) rfl rfl Tryd.func82 (by kernel_rfl) rfl #[.string (x1_1.extract (x15_10 : Int).toNat x1_1.size)] rfl (by (try simp only [List.map_toArray, List.map_cons, List.map_nil]); first | done | rfl | (simp only [List.length_drop, List.length_take]; rfl)) ?_; (with_reducible refine (utf8_DecodeRuneInString.calls kj14 (x1_1.extract (x15_10 : Int).toNat x1_1.size) t132 t133 _ ?side1 ?side2 A65.out).mono ?_); (case side1 => repeat (first | exact Kd.C_below HRG4.out (by repeat (first | (with_reducible first | exact HB.out | apply below_alloc | apply pw_below_drewN | apply below_drew1) | exact HB.out)) | exact HRG4.out | (with_reducible refine Kd.C_alloc ?_ _) | (with_reducible refine Kd.C_drewN ?_ _) | (with_reducible refine Kd.C_drew ?_))); (case side2 => repeat (first | exact Kd.C_below HRG5.out (by repeat (first | (with_reducible first | exact HB.out | apply below_alloc | apply pw_below_drewN | apply below_drew1) | exact HB.out)) | exact HRG5.out | (with_reducible refine Kd.C_alloc ?_ _) | (with_reducible refine Kd.C_drewN ?_ _) | (with_reducible refine Kd.C_drew ?_))); rintro e w70 ⟨rfl, hb⟩; refine ⟨_, rfl, ?_⟩; have n0_ := Aside0.mk (below_step (by repeat (first | (with_reducible first | exact HB.out | apply below_alloc | apply pw_below_drewN | apply below_drew1) | exact HB.out)) hb); clear HB; have HB := n0_; clear n0_; (try clear hb); (try clear hb2); (try clear hk); (try clear hi)))
                                      go_meet
                                      case rel => exact ⟨_, (x1_1.extract (x15_10 : Int).toNat x1_1.size), (t132), (t133), (by first | rfl | (simp; done) | (simp [*]; done)), (by first | rfl | (simp; done) | (simp [*]; done)), (by first | rfl | (simp; done) | (simp [*]; done)), H', ⟨by have := HK1.out; have := HJ10.out; have := HJ14.out; first | omega | exact Nat.le_refl _⟩, ⟨by repeat (first | (with_reducible first | exact HB.out | apply below_alloc | apply pw_below_drewN | apply below_drew1) | exact HB.out)⟩⟩
                                · rw [if_neg c64] at H
                                  exact absurd H (by simp)
                              · rw [if_neg c63] at H
                                exact absurd H (by simp)
                            · rw [if_neg c62] at H
                              have c62b0 : (x14_10 == 92) = false := beq_eq_false_iff_ne.mpr c62
                              have c62b1 : (x14_10 != 92) = true := bne_iff_ne.mpr c62
                              (first | rw [c62b0] | (simp only [i64_w, i32_w]; rw [c62b0]) | rw [c62b1] | skip)
                              as_aux_lemma =>
                                have H' := Aside0.mk H
                                clear H
                                go_wp2
                                go_meet
                                case rel => exact ⟨_, (x1_1), (x14_10), (x15_10), (by first | rfl | (simp; done) | (simp [*]; done)), (by first | rfl | (simp; done) | (simp [*]; done)), (by first | rfl | (simp; done) | (simp [*]; done)), H', ⟨by have := HK1.out; have := HJ10.out; have := HJ14.out; first | omega | exact Nat.le_refl _⟩, ⟨by repeat (first | (with_reducible first | exact HB.out | apply below_alloc | apply pw_below_drewN | apply below_drew1) | exact HB.out)⟩⟩
                          case rest =>
                            clear HC61
                            try clear c1
                            try clear p1
                            try clear q1
                            try clear hx1
                            try clear qi1
                            try clear c2
                            try clear p2
                            try clear c3
                            try clear p3
                            try clear q3
                            try clear hx3
                            try clear qi3
                            try clear c4
                            try clear c5
                            try clear c6
                            try clear c7
                            try clear c7b0
                            try clear c8
                            try clear c8b0
                            try clear c8b1
                            try clear c9
                            try clear c9b0
                            try clear c9b1
                            try clear p10
                            try clear q10
                            try clear hx10
                            try clear qi10
                            try clear c12
                            try clear c12b0
                            try clear c12b1
                            try clear c16
                            try clear c16b0
                            try clear c16b1
                            try clear c17
                            try clear c17b0
                            try clear c17b1
                            try clear p18
                            try clear q18
                            try clear hx18
                            try clear qi18
                            try clear c19
                            try clear c19b0
                            try clear c22
                            try clear c22b0
                            try clear c22b1
                            try clear c23
                            try clear c23b0
                            try clear c23b1
                            try clear c24
                            try clear c24b0
                            try clear c24b1
                            try clear c25
                            try clear c25b0
                            try clear c25b1
                            try clear c26
                            try clear c26b0
                            try clear c26b1
                            try clear c27
                            try clear c27b0
                            try clear c27b1
                            try clear c30
                            try clear c30b0
                            try clear c30b1
                            try clear c32
                            try clear c32b0
                            try clear c32b1
                            try clear p32
                            try clear c33
                            try clear c33b0
                            try clear c33b1
                            try clear p34
                            try clear q34
                            try clear hx34
                            try clear qi34
                            try clear c35
                            try clear c35b0
                            try clear c35b1
                            try clear c36
                            try clear c36b0
                            try clear c36b1
                            try clear c38
                            try clear c38b0
                            try clear c38b1
                            try clear c40
                            try clear c41
                            try clear c41b0
                            try clear c41b1
                            try clear c43
                            try clear c43b0
                            try clear c43b1
                            try clear c45
                            try clear c45b0
                            try clear c45b1
                            try clear c46
                            try clear c46b0
                            try clear c46b1
                            try clear c50
                            try clear c50b0
                            try clear c50b1
                            try clear c51
                            try clear c51b0
                            try clear c51b1
                            try clear c60
                            try clear c60b0
                            try clear c60b1
                            try clear c62
                            try clear c62b0
                            try clear c62b1
                            try clear c63
                            try clear c63b0
                            try clear c63b1
                            try clear c64
                            try clear c64b0
                            try clear c64b1
                            try clear c66
                            try clear c66b0
                            try clear c66b1
                            try clear c68
                            try clear p1
                            try clear p10
                            try clear p18
                            try clear p2
                            try clear p3
                            try clear p32
                            try clear p34
                            try clear q1
                            try clear q10
                            try clear q18
                            try clear q3
                            try clear q34
                            obtain ⟨kq, x1_60, x14_60, x15_60, rfl, rfl, rfl, HA, HJ60, HB⟩ := hcut
                            cases kq with
                            | zero => exact absurd HA.out (by simp [match_match.j5])
                            | succ kj60 =>
                              have H := HA.out
                              clear HA
                              simp only [match_match.j5] at H
                              have HC71 := Aside0.mk H
                              clear H
                              go_upto_if 75 with (fail)
                              go_cut [14, 16] (fun v14 v16 wc => ∃ (kq : Nat) (x14_70 : Int) (x16_70 : Int), v14 = .int .i32 x14_70 ∧ v16 = .int .i32 x16_70 ∧ Aside0 (match_match.j6 kq x0_1 x1_60 a2 a3 a4 a5 false x14_70 x15_60 x16_70 x17_14 = some r) ∧ Aside0 (kq ≤ kj60) ∧ Aside0 (Below w.heap.size w wc))
                              case first =>
                                have H := HC71.out
                                clear HC71
                                by_cases c72 : a5 = true
                                · subst c72
                                  have H1 : ((match_tolower.f x16_14).bind fun t134 => ((match_tolower.f x14_60).bind fun t135 => (match_match.j6 kj60 x0_1 x1_60 a2 a3 a4 true false t135 x15_60 t134 x17_14))) = some r := by rw [if_pos rfl] at H; exact H
                                  clear H
                                  have H := H1
                                  clear H1
                                  replace H := Option.bind_eq_some_iff.mp H
                                  obtain ⟨t134, A730, H⟩ := H
                                  replace H : ((match_tolower.f x14_60).bind fun t135 => (match_match.j6 kj60 x0_1 x1_60 a2 a3 a4 true false t135 x15_60 t134 x17_14)) = some r := H
                                  have A73 := Aside0.mk A730
                                  clear A730
                                  replace H := Option.bind_eq_some_iff.mp H
                                  obtain ⟨t135, A740, H⟩ := H
                                  replace H : (match_match.j6 kj60 x0_1 x1_60 a2 a3 a4 true false t135 x15_60 t134 x17_14) = some r := H
                                  have A74 := Aside0.mk A740
                                  clear A740
                                  as_aux_lemma =>
                                    have H' := Aside0.mk H
                                    clear H
                                    go_wp2_with (first | ((with_reducible refine gate_callee (f := 84) rfl ?_); refine goesL_ (some 77) rfl rfl Tryd.func84 (by kernel_rfl) rfl #[.int .i32 x16_14] rfl (by (try simp only [List.map_toArray, List.map_cons, List.map_nil]); first | done | rfl | (simp only [List.length_drop, List.length_take]; rfl)) ?_; (with_reducible refine (match_tolower.calls x16_14 t134 _ A73.out).mono ?_); rintro e w' ⟨rfl, ⟨nd, rfl⟩⟩; refine ⟨_, rfl, ?_⟩) | ((with_reducible refine gate_callee (f := 84) rfl ?_); refine goesL_ (some 79) rfl rfl Tryd.func84 (by kernel_rfl) rfl #[.int .i32 x14_60] rfl (by (try simp only [List.map_toArray, List.map_cons, List.map_nil]); first | done | rfl | (simp only [List.length_drop, List.length_take]; rfl)) ?_; (with_reducible refine (match_tolower.calls x14_60 t135 _ A74.out).mono ?_); rintro e w' ⟨rfl, ⟨nd, rfl⟩⟩; refine ⟨_, rfl, ?_⟩))
                                    go_meet
                                    case rel => exact ⟨_, (t135), (t134), (by first | rfl | (simp; done) | (simp [*]; done)), (by first | rfl | (simp; done) | (simp [*]; done)), H', ⟨by have := HK1.out; have := HJ10.out; have := HJ14.out; have := HJ60.out; first | omega | exact Nat.le_refl _⟩, ⟨by repeat (first | (with_reducible first | exact HB.out | apply below_alloc | apply pw_below_drewN | apply below_drew1) | exact HB.out)⟩⟩
                                · replace c72 := Bool.eq_false_iff.mpr c72
                                  subst c72
                                  have H1 : (match_match.j6 kj60 x0_1 x1_60 a2 a3 a4 false false x14_60 x15_60 x16_14 x17_14) = some r := by rw [if_neg (show ¬ (false = true) by decide)] at H; exact H
                                  clear H
                                  have H := H1
                                  clear H1
                                  as_aux_lemma =>
                                    have H' := Aside0.mk H
                                    clear H
                                    go_wp2
                                    go_meet
                                    case rel => exact ⟨_, (x14_60), (x16_14), (by first | rfl | (simp; done) | (simp [*]; done)), (by first | rfl | (simp; done) | (simp [*]; done)), H', ⟨by have := HK1.out; have := HJ10.out; have := HJ14.out; have := HJ60.out; first | omega | exact Nat.le_refl _⟩, ⟨by repeat (first | (with_reducible first | exact HB.out | apply below_alloc | apply pw_below_drewN | apply below_drew1) | exact HB.out)⟩⟩
                              case rest =>
                                clear HC71
                                try clear c1
                                try clear p1
                                try clear q1
                                try clear hx1
                                try clear qi1
                                try clear c2
                                try clear p2
                                try clear c3
                                try clear p3
                                try clear q3
                                try clear hx3
                                try clear qi3
                                try clear c4
                                try clear c5
                                try clear c6
                                try clear c7
                                try clear c7b0
                                try clear c8
                                try clear c8b0
                                try clear c8b1
                                try clear c9
                                try clear c9b0
                                try clear c9b1
                                try clear p10
                                try clear q10
                                try clear hx10
                                try clear qi10
                                try clear c12
                                try clear c12b0
                                try clear c12b1
                                try clear c16
                                try clear c16b0
                                try clear c16b1
                                try clear c17
                                try clear c17b0
                                try clear c17b1
                                try clear p18
                                try clear q18
                                try clear hx18
                                try clear qi18
                                try clear c19
                                try clear c19b0
                                try clear c22
                                try clear c22b0
                                try clear c22b1
                                try clear c23
                                try clear c23b0
                                try clear c23b1
                                try clear c24
                                try clear c24b0
                                try clear c24b1
                                try clear c25
                                try clear c25b0
                                try clear c25b1
                                try clear c26
                                try clear c26b0
                                try clear c26b1
                                try clear c27
                                try clear c27b0
                                try clear c27b1
                                try clear c30
                                try clear c30b0
                                try clear c30b1
                                try clear c32
                                try clear c32b0
                                try clear c32b1
                                try clear p32
                                try clear c33
                                try clear c33b0
                                try clear c33b1
                                try clear p34
                                try clear q34
                                try clear hx34
                                try clear qi34
                                try clear c35
                                try clear c35b0
                                try clear c35b1
                                try clear c36
                                try clear c36b0
                                try clear c36b1
                                try clear c38
                                try clear c38b0
                                try clear c38b1
                                try clear c40
                                try clear c41
                                try clear c41b0
                                try clear c41b1
                                try clear c43
                                try clear c43b0
                                try clear c43b1
                                try clear c45
                                try clear c45b0
                                try clear c45b1
                                try clear c46
                                try clear c46b0
                                try clear c46b1
                                try clear c50
                                try clear c50b0
                                try clear c50b1
                                try clear c51
                                try clear c51b0
                                try clear c51b1
                                try clear c60
                                try clear c60b0
                                try clear c60b1
                                try clear c62
                                try clear c62b0
                                try clear c62b1
                                try clear c63
                                try clear c63b0
                                try clear c63b1
                                try clear c64
                                try clear c64b0
                                try clear c64b1
                                try clear c66
                                try clear c66b0
                                try clear c66b1
                                try clear c68
                                try clear c72
                                try clear p1
                                try clear p10
                                try clear p18
                                try clear p2
                                try clear p3
                                try clear p32
                                try clear p34
                                try clear q1
                                try clear q10
                                try clear q18
                                try clear q3
                                try clear q34
                                obtain ⟨kq, x14_70, x16_70, rfl, rfl, HA, HJ70, HB⟩ := hcut
                                cases kq with
                                | zero => exact absurd HA.out (by simp [match_match.j6])
                                | succ kj70 =>
                                  have H := HA.out
                                  clear HA
                                  simp only [match_match.j6] at H
                                  by_cases c75 : x16_70 = x14_70
                                  · rw [if_pos c75] at H
                                    have c75b0 : (x16_70 == x14_70) = true := beq_iff_eq.mpr c75
                                    have c75b1 : (x16_70 != x14_70) = false := bne_eq_false_iff_eq.mpr c75
                                    clear c75
                                    by_cases c76 : 0 ≤ x17_14
                                    · rw [if_pos c76] at H
                                      have c76b0 := eq_true c76
                                      have c76b1 : decide (0 ≤ x17_14) = true := decide_eq_true c76
                                      clear c76
                                      by_cases c77 : x17_14 ≤ (x0_1.size : Int)
                                      · rw [if_pos c77] at H
                                        have c77b0 := eq_true c77
                                        have c77b1 : decide (x17_14 ≤ (x0_1.size : Int)) = true := decide_eq_true c77
                                        clear c77
                                        have H1 : (if 0 ≤ x15_60 then (if x15_60 ≤ (x1_60.size : Int) then (match_match.l0 kj70 (x0_1.extract (x17_14 : Int).toNat x0_1.size) (x1_60.extract (x15_60 : Int).toNat x1_60.size) a2 a3 a4 a5) else (none)) else (none)) = some r := by rw [if_neg (show ¬ (false = true) by decide)] at H; exact H
                                        clear H
                                        have H := H1
                                        clear H1
                                        by_cases c78 : 0 ≤ x15_60
                                        · rw [if_pos c78] at H
                                          have c78b0 := eq_true c78
                                          have c78b1 : decide (0 ≤ x15_60) = true := decide_eq_true c78
                                          clear c78
                                          by_cases c79 : x15_60 ≤ (x1_60.size : Int)
                                          · rw [if_pos c79] at H
                                            have c79b0 := eq_true c79
                                            have c79b1 : decide (x15_60 ≤ (x1_60.size : Int)) = true := decide_eq_true c79
                                            clear c79
                                            as_aux_lemma =>
                                              have H' := Aside0.mk H
                                              clear H
                                              try have hcs80 := fun W_ : World => run_slice_string_l (P := Tryd.prog) W_ 9 x0_1 Tryd.underlying9 .i64 x17_14 (of_decide_eq_true (by first | (with_reducible assumption) | assumption)) (of_decide_eq_true (by first | (with_reducible assumption) | assumption))
                                              try have hcs81 := fun W_ : World => run_slice_string_l (P := Tryd.prog) W_ 9 x1_60 Tryd.underlying9 .i64 x15_60 (of_decide_eq_true (by first | (with_reducible assumption) | assumption)) (of_decide_eq_true (by first | (with_reducible assumption) | assumption))
                                              go_wp2
                                              go_roundg kj70
                                              case measure => have := HK1.out; have := HJ10.out; have := HJ14.out; have := HJ60.out; have := HJ70.out; omega
                                              case rel => exact ⟨(x0_1.extract (x17_14 : Int).toNat x0_1.size), (x1_60.extract (x15_60 : Int).toNat x1_60.size), (by first | rfl | (simp; done) | (simp [*]; done)), (by first | rfl | (simp; done) | (simp [*]; done)), H', ⟨by have := HK1.out; have := HJ10.out; have := HJ14.out; have := HJ60.out; have := HJ70.out; omega⟩, ⟨by repeat (first | (with_reducible first | exact HB.out | apply below_alloc | apply pw_below_drewN | apply below_drew1) | exact HB.out)⟩⟩
                                          · rw [if_neg c79] at H
                                            exact absurd H (by simp)
                                        · rw [if_neg c78] at H
                                          exact absurd H (by simp)
                                      · rw [if_neg c77] at H
                                        exact absurd H (by simp)
                                    · rw [if_neg c76] at H
                                      exact absurd H (by simp)
                                  · rw [if_neg c75] at H
                                    have c75b0 : (x16_70 == x14_70) = false := beq_eq_false_iff_ne.mpr c75
                                    have c75b1 : (x16_70 != x14_70) = true := bne_iff_ne.mpr c75
                                    as_aux_lemma =>
                                      obtain rfl := Option.some.inj H
                                      go_wp2
                                      go_ret
                                      exact ⟨by first | rfl | (simp [errW_none, errW_some] <;> rfl) | (simp [*, errW_none, errW_some] <;> rfl), by repeat (first | (with_reducible first | exact HB.out | apply below_alloc | apply pw_below_drewN | apply below_drew1) | exact HB.out)⟩
          · rw [if_neg c9] at H
            exact absurd H (by simp)
        · rw [if_neg c8] at H
          have c8b0 : decide (0 < (x1_1.size : Int)) = false := decide_eq_false c8
          have c8b1 : decide (0 < x1_1.size) = false := decide_eq_false (by omega)
          clear c8
          by_cases c82 : (x0_1.size : Int) = 0
          · rw [if_pos c82] at H
            have c82b0 : ((x0_1.size : Int) == 0) = true := beq_iff_eq.mpr c82
            have c82b1 : ((x0_1.size : Int) != 0) = false := bne_eq_false_iff_eq.mpr c82
            clear c82
            as_aux_lemma =>
              obtain rfl := Option.some.inj H
              go_wp2
              go_ret
              exact ⟨by first | rfl | (simp [errW_none, errW_some] <;> rfl) | (simp [*, errW_none, errW_some] <;> rfl), by repeat (first | (with_reducible first | exact HB.out | apply below_alloc | apply pw_below_drewN | apply below_drew1) | exact HB.out)⟩
          · rw [if_neg c82] at H
            have c82b0 : ((x0_1.size : Int) == 0) = false := beq_eq_false_iff_ne.mpr c82
            have c82b1 : ((x0_1.size : Int) != 0) = true := bne_iff_ne.mpr c82
            as_aux_lemma =>
              obtain rfl := Option.some.inj H
              go_wp2
              go_ret
              exact ⟨by first | rfl | (simp [errW_none, errW_some] <;> rfl) | (simp [*, errW_none, errW_some] <;> rfl), by repeat (first | (with_reducible first | exact HB.out | apply below_alloc | apply pw_below_drewN | apply below_drew1) | exact HB.out)⟩

end Go.Proofs.YtfpbbnllaogclaaDoor.PA
