-- Written by a program of this session out of the translation (a changed copy of the kit's print); Lean checks it.
import Derived.Test.YtdndddembndnhaaPAx0
import Derived.Test.YtdndddembndnhaaPAx2
import Derived.Test.YtdndddembndnhaaPAx3
import Derived.Test.YtdndddembndnhaaPAx6
import Derived.Test.YtdndddembndnhaaPAx7
import Derived.Test.YtdndddembndnhaaPAx9
import Derived.Test.YtdndddembndnhaaPAx10
namespace Go.Proofs.Ytdndddembndnhaa.PA
open Go.RowKit Go.Proofs.YtdndddembndnhaaW.PrintWords Go.Proofs.YtdndddembndnhaaW.PrintLast Go.Proofs.YtdndddembndnhaaW.PrintMore
attribute [local go_sem] max2_int min2_int max_two min_two max_three min_three max_four min_four   -- for this text's walks alone
set_option linter.unusedVariables false
set_option linter.unusedSimpArgs false

/-! ### functions that call each other: spec_reader_members, spec_reader_elements, spec_reader_value -/
mutual
def spec_reader_members.l0 : Nat → List (S64) → List (S32) → ByteArray → Int → Option ((List (S64)) × (List (S32)) × Bool × ByteArray × Int)
  | 0, _, _, _, _ => none
  | k + 1, x5, x6, x1000, x1001 => (spec_reader_here.f x1000 x1001).bind fun bt157 => (if bt157.1 = 34 then ((spec_reader_quoted.f k bt157.2.1 bt157.2.2).bind fun bt160 => (spec_reader_members.j1 k x5 x6 x1001 (!bt160.1) bt160.2.1 bt160.2.2)) else (spec_reader_members.j1 k x5 x6 x1001 true bt157.2.1 bt157.2.2))
def spec_reader_members.j1 : Nat → List (S64) → List (S32) → Int → Bool → ByteArray → Int → Option ((List (S64)) × (List (S32)) × Bool × ByteArray × Int)
  | 0, _, _, _, _, _, _ => none
  | k + 1, x5, x6, x7, x32, x1000, x1001 => if x32 = true then (some (([] : List (S64)), ([] : List (S32)), false, x1000, x1001)) else (if x5.length < 8796093022208 then ((some (x5 ++ [(⟨x7, x1001⟩ : S64)] : List (S64))).bind fun y163 => ((spec_reader_blanks.f k x1000 x1001).bind fun bt166 => ((spec_reader_take.f bt166.1 bt166.2 58).bind fun bt168 => (if bt168.1 = true then ((spec_reader_blanks.f k bt168.2.1 bt168.2.2).bind fun bt171 => ((spec_reader_value.f k bt171.1 bt171.2).bind fun bt173 => (if bt173.2.2.2.2.2.1 = true then (if x6.length < 1954687338268 then ((some (x6 ++ [(⟨bt173.1, bt173.2.1, bt173.2.2.1, bt173.2.2.2.1, bt173.2.2.2.2.1⟩ : S32)] : List (S32))).bind fun y186 => ((spec_reader_blanks.f k bt173.2.2.2.2.2.2.1 bt173.2.2.2.2.2.2.2).bind fun bt189 => ((spec_reader_take.f bt189.1 bt189.2 125).bind fun bt191 => (if bt191.1 = true then (some (y163, y186, true, bt191.2.1, bt191.2.2)) else ((spec_reader_take.f bt191.2.1 bt191.2.2 44).bind fun bt194 => (if bt194.1 = true then ((spec_reader_blanks.f k bt194.2.1 bt194.2.2).bind fun bt197 => (spec_reader_members.l0 k y163 y186 bt197.1 bt197.2)) else (some (([] : List (S64)), ([] : List (S32)), false, bt194.2.1, bt194.2.2)))))))) else (none)) else (some (([] : List (S64)), ([] : List (S32)), false, bt173.2.2.2.2.2.2.1, bt173.2.2.2.2.2.2.2))))) else (some (([] : List (S64)), ([] : List (S32)), false, bt168.2.1, bt168.2.2)))))) else (none))
def spec_reader_members.f : Nat → ByteArray → Int → Option ((List (S64)) × (List (S32)) × Bool × ByteArray × Int)
  | 0, _, _ => none
  | k + 1, s0_0, s0_1 => (spec_reader_blanks.f k s0_0 (wrap64 (s0_1 + 1))).bind fun bt152 => ((spec_reader_take.f bt152.1 bt152.2 125).bind fun bt154 => (if bt154.1 = true then (some (([] : List (S64)), ([] : List (S32)), true, bt154.2.1, bt154.2.2)) else (spec_reader_members.l0 k ([] : List (S64)) ([] : List (S32)) bt154.2.1 bt154.2.2)))
def spec_reader_elements.l0 : Nat → List (S32) → ByteArray → Int → Option ((List (S32)) × Bool × ByteArray × Int)
  | 0, _, _, _ => none
  | k + 1, x4, x1000, x1001 => (spec_reader_value.f k x1000 x1001).bind fun bt204 => (if bt204.2.2.2.2.2.1 = true then (if x4.length < 1954687338268 then ((some (x4 ++ [(⟨bt204.1, bt204.2.1, bt204.2.2.1, bt204.2.2.2.1, bt204.2.2.2.2.1⟩ : S32)] : List (S32))).bind fun y217 => ((spec_reader_blanks.f k bt204.2.2.2.2.2.2.1 bt204.2.2.2.2.2.2.2).bind fun bt220 => ((spec_reader_take.f bt220.1 bt220.2 93).bind fun bt222 => (if bt222.1 = true then (some (y217, true, bt222.2.1, bt222.2.2)) else ((spec_reader_take.f bt222.2.1 bt222.2.2 44).bind fun bt225 => (if bt225.1 = true then ((spec_reader_blanks.f k bt225.2.1 bt225.2.2).bind fun bt228 => (spec_reader_elements.l0 k y217 bt228.1 bt228.2)) else (some (([] : List (S32)), false, bt225.2.1, bt225.2.2)))))))) else (none)) else (some (([] : List (S32)), false, bt204.2.2.2.2.2.2.1, bt204.2.2.2.2.2.2.2)))
def spec_reader_elements.f : Nat → ByteArray → Int → Option ((List (S32)) × Bool × ByteArray × Int)
  | 0, _, _ => none
  | k + 1, s0_0, s0_1 => (spec_reader_blanks.f k s0_0 (wrap64 (s0_1 + 1))).bind fun bt199 => ((spec_reader_take.f bt199.1 bt199.2 93).bind fun bt201 => (if bt201.1 = true then (some (([] : List (S32)), true, bt201.2.1, bt201.2.2)) else (spec_reader_elements.l0 k ([] : List (S32)) bt201.2.1 bt201.2.2)))
def spec_reader_value.j0 : Nat → Bool → Bool → ByteArray → Int → Int → Int → Int → Option (Int × Int × Int × (List (S64)) × (List (S32)) × Bool × ByteArray × Int)
  | 0, _, _, _, _, _, _, _ => none
  | k + 1, x5, x42, x1000, x1001, x232000, x232001, x232002 => if x42 = true then ((spec_reader_number.f k x1000 x1001).bind fun bt253 => (some (3, x232001, bt253.2.2, ([] : List (S64)), ([] : List (S32)), bt253.1, bt253.2.1, bt253.2.2))) else ((spec_reader_word.f x1000 x1001 (⟨#[110, 117, 108, 108]⟩ : ByteArray)).bind fun bt256 => (if bt256.1 = true then (some (0, x232001, bt256.2.2, ([] : List (S64)), ([] : List (S32)), x5, bt256.2.1, bt256.2.2)) else ((spec_reader_word.f bt256.2.1 bt256.2.2 (⟨#[102, 97, 108, 115, 101]⟩ : ByteArray)).bind fun bt259 => (if bt259.1 = true then (some (1, x232001, bt259.2.2, ([] : List (S64)), ([] : List (S32)), x5, bt259.2.1, bt259.2.2)) else ((spec_reader_word.f bt259.2.1 bt259.2.2 (⟨#[116, 114, 117, 101]⟩ : ByteArray)).bind fun bt262 => (if bt262.1 = true then (some (2, x232001, bt262.2.2, ([] : List (S64)), ([] : List (S32)), x5, bt262.2.1, bt262.2.2)) else (some (x232000, x232001, bt262.2.2, ([] : List (S64)), ([] : List (S32)), false, bt262.2.1, bt262.2.2))))))))
def spec_reader_value.f : Nat → ByteArray → Int → Option (Int × Int × Int × (List (S64)) × (List (S32)) × Bool × ByteArray × Int)
  | 0, _, _ => none
  | k + 1, s0_0, s0_1 => (spec_reader_here.f s0_0 s0_1).bind fun bt232 => (if bt232.1 = 123 then ((spec_reader_members.f k bt232.2.1 bt232.2.2).bind fun bt235 => (some (6, s0_1, bt235.2.2.2.2, bt235.1, bt235.2.1, bt235.2.2.1, bt235.2.2.2.1, bt235.2.2.2.2))) else (if bt232.1 = 91 then ((spec_reader_elements.f k bt232.2.1 bt232.2.2).bind fun bt244 => (some (5, s0_1, bt244.2.2.2, ([] : List (S64)), bt244.1, bt244.2.1, bt244.2.2.1, bt244.2.2.2))) else (if bt232.1 = 34 then ((spec_reader_quoted.f k bt232.2.1 bt232.2.2).bind fun bt250 => (some (4, s0_1, bt250.2.2, ([] : List (S64)), ([] : List (S32)), bt250.1, bt250.2.1, bt250.2.2))) else (if bt232.1 = 45 then (spec_reader_value.j0 k true true bt232.2.1 bt232.2.2 0 s0_1 0) else (if 48 ≤ bt232.1 then (spec_reader_value.j0 k true (decide (bt232.1 ≤ 57)) bt232.2.1 bt232.2.2 0 s0_1 0) else (spec_reader_value.j0 k true false bt232.2.1 bt232.2.2 0 s0_1 0))))))
end
theorem spec_reader_value.scc_mono_l : ∀ k, (∀ y0 y1, LeO (spec_reader_members.f k y0 y1) (spec_reader_members.f (k + 1) y0 y1)) ∧ (∀ y0 y1 y2 y3, LeO (spec_reader_members.l0 k y0 y1 y2 y3) (spec_reader_members.l0 (k + 1) y0 y1 y2 y3)) ∧ (∀ y0 y1 y2 y3 y4 y5, LeO (spec_reader_members.j1 k y0 y1 y2 y3 y4 y5) (spec_reader_members.j1 (k + 1) y0 y1 y2 y3 y4 y5)) ∧ (∀ y0 y1, LeO (spec_reader_elements.f k y0 y1) (spec_reader_elements.f (k + 1) y0 y1)) ∧ (∀ y0 y1 y2, LeO (spec_reader_elements.l0 k y0 y1 y2) (spec_reader_elements.l0 (k + 1) y0 y1 y2)) ∧ (∀ y0 y1, LeO (spec_reader_value.f k y0 y1) (spec_reader_value.f (k + 1) y0 y1)) ∧ (∀ y0 y1 y2 y3 y4 y5 y6, LeO (spec_reader_value.j0 k y0 y1 y2 y3 y4 y5 y6) (spec_reader_value.j0 (k + 1) y0 y1 y2 y3 y4 y5 y6))
  | 0 => ⟨fun _ _ r h => by simp [spec_reader_members.f] at h, fun _ _ _ _ r h => by simp [spec_reader_members.l0] at h, fun _ _ _ _ _ _ r h => by simp [spec_reader_members.j1] at h, fun _ _ r h => by simp [spec_reader_elements.f] at h, fun _ _ _ r h => by simp [spec_reader_elements.l0] at h, fun _ _ r h => by simp [spec_reader_value.f] at h, fun _ _ _ _ _ _ _ r h => by simp [spec_reader_value.j0] at h⟩
  | k + 1 => by
    obtain ⟨ih0, ih1, ih2, ih3, ih4, ih5, ih6⟩ := spec_reader_value.scc_mono_l k
    refine ⟨?_, ?_, ?_, ?_, ?_, ?_, ?_⟩
    · intro y0 y1
      unfold spec_reader_members.f
      repeat' first
      | (with_reducible exact ih0 _ _)
      | (with_reducible exact ih1 _ _ _ _)
      | (with_reducible exact ih2 _ _ _ _ _ _)
      | (with_reducible exact ih3 _ _)
      | (with_reducible exact ih4 _ _ _)
      | (with_reducible exact ih5 _ _)
      | (with_reducible exact ih6 _ _ _ _ _ _ _)
      | (with_reducible exact spec_reader_blanks.mono _ _ _)
      | (with_reducible exact spec_reader_number.mono _ _ _)
      | (with_reducible exact spec_reader_quoted.mono _ _ _)
      | (with_reducible exact LeO.refl _)
      | (with_reducible exact LeO.none _)
      | (with_reducible refine LeO.ite ?_ ?_)
      | (with_reducible refine LeO.bind ?_ (fun _ => ?_))
      | exact ih0 _ _
      | exact ih1 _ _ _ _
      | exact ih2 _ _ _ _ _ _
      | exact ih3 _ _
      | exact ih4 _ _ _
      | exact ih5 _ _
      | exact ih6 _ _ _ _ _ _ _
      | exact spec_reader_blanks.mono _ _ _
      | exact spec_reader_number.mono _ _ _
      | exact spec_reader_quoted.mono _ _ _
      | exact LeO.none _
      | refine LeO.ite ?_ ?_
      | refine LeO.bind ?_ (fun _ => ?_)
    · intro y0 y1 y2 y3
      unfold spec_reader_members.l0
      repeat' first
      | (with_reducible exact ih0 _ _)
      | (with_reducible exact ih1 _ _ _ _)
      | (with_reducible exact ih2 _ _ _ _ _ _)
      | (with_reducible exact ih3 _ _)
      | (with_reducible exact ih4 _ _ _)
      | (with_reducible exact ih5 _ _)
      | (with_reducible exact ih6 _ _ _ _ _ _ _)
      | (with_reducible exact spec_reader_blanks.mono _ _ _)
      | (with_reducible exact spec_reader_number.mono _ _ _)
      | (with_reducible exact spec_reader_quoted.mono _ _ _)
      | (with_reducible exact LeO.refl _)
      | (with_reducible exact LeO.none _)
      | (with_reducible refine LeO.ite ?_ ?_)
      | (with_reducible refine LeO.bind ?_ (fun _ => ?_))
      | exact ih0 _ _
      | exact ih1 _ _ _ _
      | exact ih2 _ _ _ _ _ _
      | exact ih3 _ _
      | exact ih4 _ _ _
      | exact ih5 _ _
      | exact ih6 _ _ _ _ _ _ _
      | exact spec_reader_blanks.mono _ _ _
      | exact spec_reader_number.mono _ _ _
      | exact spec_reader_quoted.mono _ _ _
      | exact LeO.none _
      | refine LeO.ite ?_ ?_
      | refine LeO.bind ?_ (fun _ => ?_)
    · intro y0 y1 y2 y3 y4 y5
      unfold spec_reader_members.j1
      repeat' first
      | (with_reducible exact ih0 _ _)
      | (with_reducible exact ih1 _ _ _ _)
      | (with_reducible exact ih2 _ _ _ _ _ _)
      | (with_reducible exact ih3 _ _)
      | (with_reducible exact ih4 _ _ _)
      | (with_reducible exact ih5 _ _)
      | (with_reducible exact ih6 _ _ _ _ _ _ _)
      | (with_reducible exact spec_reader_blanks.mono _ _ _)
      | (with_reducible exact spec_reader_number.mono _ _ _)
      | (with_reducible exact spec_reader_quoted.mono _ _ _)
      | (with_reducible exact LeO.refl _)
      | (with_reducible exact LeO.none _)
      | (with_reducible refine LeO.ite ?_ ?_)
      | (with_reducible refine LeO.bind ?_ (fun _ => ?_))
      | exact ih0 _ _
      | exact ih1 _ _ _ _
      | exact ih2 _ _ _ _ _ _
      | exact ih3 _ _
      | exact ih4 _ _ _
      | exact ih5 _ _
      | exact ih6 _ _ _ _ _ _ _
      | exact spec_reader_blanks.mono _ _ _
      | exact spec_reader_number.mono _ _ _
      | exact spec_reader_quoted.mono _ _ _
      | exact LeO.none _
      | refine LeO.ite ?_ ?_
      | refine LeO.bind ?_ (fun _ => ?_)
    · intro y0 y1
      unfold spec_reader_elements.f
      repeat' first
      | (with_reducible exact ih0 _ _)
      | (with_reducible exact ih1 _ _ _ _)
      | (with_reducible exact ih2 _ _ _ _ _ _)
      | (with_reducible exact ih3 _ _)
      | (with_reducible exact ih4 _ _ _)
      | (with_reducible exact ih5 _ _)
      | (with_reducible exact ih6 _ _ _ _ _ _ _)
      | (with_reducible exact spec_reader_blanks.mono _ _ _)
      | (with_reducible exact spec_reader_number.mono _ _ _)
      | (with_reducible exact spec_reader_quoted.mono _ _ _)
      | (with_reducible exact LeO.refl _)
      | (with_reducible exact LeO.none _)
      | (with_reducible refine LeO.ite ?_ ?_)
      | (with_reducible refine LeO.bind ?_ (fun _ => ?_))
      | exact ih0 _ _
      | exact ih1 _ _ _ _
      | exact ih2 _ _ _ _ _ _
      | exact ih3 _ _
      | exact ih4 _ _ _
      | exact ih5 _ _
      | exact ih6 _ _ _ _ _ _ _
      | exact spec_reader_blanks.mono _ _ _
      | exact spec_reader_number.mono _ _ _
      | exact spec_reader_quoted.mono _ _ _
      | exact LeO.none _
      | refine LeO.ite ?_ ?_
      | refine LeO.bind ?_ (fun _ => ?_)
    · intro y0 y1 y2
      unfold spec_reader_elements.l0
      repeat' first
      | (with_reducible exact ih0 _ _)
      | (with_reducible exact ih1 _ _ _ _)
      | (with_reducible exact ih2 _ _ _ _ _ _)
      | (with_reducible exact ih3 _ _)
      | (with_reducible exact ih4 _ _ _)
      | (with_reducible exact ih5 _ _)
      | (with_reducible exact ih6 _ _ _ _ _ _ _)
      | (with_reducible exact spec_reader_blanks.mono _ _ _)
      | (with_reducible exact spec_reader_number.mono _ _ _)
      | (with_reducible exact spec_reader_quoted.mono _ _ _)
      | (with_reducible exact LeO.refl _)
      | (with_reducible exact LeO.none _)
      | (with_reducible refine LeO.ite ?_ ?_)
      | (with_reducible refine LeO.bind ?_ (fun _ => ?_))
      | exact ih0 _ _
      | exact ih1 _ _ _ _
      | exact ih2 _ _ _ _ _ _
      | exact ih3 _ _
      | exact ih4 _ _ _
      | exact ih5 _ _
      | exact ih6 _ _ _ _ _ _ _
      | exact spec_reader_blanks.mono _ _ _
      | exact spec_reader_number.mono _ _ _
      | exact spec_reader_quoted.mono _ _ _
      | exact LeO.none _
      | refine LeO.ite ?_ ?_
      | refine LeO.bind ?_ (fun _ => ?_)
    · intro y0 y1
      unfold spec_reader_value.f
      repeat' first
      | (with_reducible exact ih0 _ _)
      | (with_reducible exact ih1 _ _ _ _)
      | (with_reducible exact ih2 _ _ _ _ _ _)
      | (with_reducible exact ih3 _ _)
      | (with_reducible exact ih4 _ _ _)
      | (with_reducible exact ih5 _ _)
      | (with_reducible exact ih6 _ _ _ _ _ _ _)
      | (with_reducible exact spec_reader_blanks.mono _ _ _)
      | (with_reducible exact spec_reader_number.mono _ _ _)
      | (with_reducible exact spec_reader_quoted.mono _ _ _)
      | (with_reducible exact LeO.refl _)
      | (with_reducible exact LeO.none _)
      | (with_reducible refine LeO.ite ?_ ?_)
      | (with_reducible refine LeO.bind ?_ (fun _ => ?_))
      | exact ih0 _ _
      | exact ih1 _ _ _ _
      | exact ih2 _ _ _ _ _ _
      | exact ih3 _ _
      | exact ih4 _ _ _
      | exact ih5 _ _
      | exact ih6 _ _ _ _ _ _ _
      | exact spec_reader_blanks.mono _ _ _
      | exact spec_reader_number.mono _ _ _
      | exact spec_reader_quoted.mono _ _ _
      | exact LeO.none _
      | refine LeO.ite ?_ ?_
      | refine LeO.bind ?_ (fun _ => ?_)
    · intro y0 y1 y2 y3 y4 y5 y6
      unfold spec_reader_value.j0
      repeat' first
      | (with_reducible exact ih0 _ _)
      | (with_reducible exact ih1 _ _ _ _)
      | (with_reducible exact ih2 _ _ _ _ _ _)
      | (with_reducible exact ih3 _ _)
      | (with_reducible exact ih4 _ _ _)
      | (with_reducible exact ih5 _ _)
      | (with_reducible exact ih6 _ _ _ _ _ _ _)
      | (with_reducible exact spec_reader_blanks.mono _ _ _)
      | (with_reducible exact spec_reader_number.mono _ _ _)
      | (with_reducible exact spec_reader_quoted.mono _ _ _)
      | (with_reducible exact LeO.refl _)
      | (with_reducible exact LeO.none _)
      | (with_reducible refine LeO.ite ?_ ?_)
      | (with_reducible refine LeO.bind ?_ (fun _ => ?_))
      | exact ih0 _ _
      | exact ih1 _ _ _ _
      | exact ih2 _ _ _ _ _ _
      | exact ih3 _ _
      | exact ih4 _ _ _
      | exact ih5 _ _
      | exact ih6 _ _ _ _ _ _ _
      | exact spec_reader_blanks.mono _ _ _
      | exact spec_reader_number.mono _ _ _
      | exact spec_reader_quoted.mono _ _ _
      | exact LeO.none _
      | refine LeO.ite ?_ ?_
      | refine LeO.bind ?_ (fun _ => ?_)
theorem spec_reader_members.mono : ∀ a0 a1 k, LeO (spec_reader_members.f k a0 a1) (spec_reader_members.f (k + 1) a0 a1) := by
  intro a0 a1 k
  obtain ⟨ih0, ih1, ih2, ih3, ih4, ih5, ih6⟩ := spec_reader_value.scc_mono_l k
  exact ih0 a0 a1
theorem spec_reader_elements.mono : ∀ a0 a1 k, LeO (spec_reader_elements.f k a0 a1) (spec_reader_elements.f (k + 1) a0 a1) := by
  intro a0 a1 k
  obtain ⟨ih0, ih1, ih2, ih3, ih4, ih5, ih6⟩ := spec_reader_value.scc_mono_l k
  exact ih3 a0 a1
theorem spec_reader_value.mono : ∀ a0 a1 k, LeO (spec_reader_value.f k a0 a1) (spec_reader_value.f (k + 1) a0 a1) := by
  intro a0 a1 k
  obtain ⟨ih0, ih1, ih2, ih3, ih4, ih5, ih6⟩ := spec_reader_value.scc_mono_l k
  exact ih5 a0 a1

end Go.Proofs.Ytdndddembndnhaa.PA
