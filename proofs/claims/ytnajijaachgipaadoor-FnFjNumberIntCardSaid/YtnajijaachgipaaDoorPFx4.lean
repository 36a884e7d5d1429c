-- Written by a program of this session out of the translation (a changed copy of the kit's print); Lean checks it.
import Derived.Test.YtnajijaachgipaaDoorPFx0
import Derived.Test.YtnajijaachgipaaDoorPFx1
import Derived.Test.YtnajijaachgipaaDoorPFx2
namespace Go.Proofs.YtnajijaachgipaaDoor.PF
open Go.RowKit Go.Proofs.YtnajijaachgipaaDoorW.PrintWords Go.Proofs.YtnajijaachgipaaDoorW.PrintLast Go.Proofs.YtnajijaachgipaaDoorW.PrintMore
attribute [local go_sem] max2_int min2_int max_two min_two max_three min_three max_four min_four   -- for this text's walks alone
set_option linter.unusedVariables false
set_option linter.unusedSimpArgs false

/-! ### strconv_ParseInt: function 65, by hand -/
def strconv_ParseInt.f (a0 : ByteArray) (a1 : Int) (a2 : Int) : Option (Int × Option Int) := if a1 = 10 then (if a2 = 64 then (if a0.size ≤ 140737488351232 then (match Lib.parseIntB 64 a0.data.toList with | .ok v => some (v, none) | .range => some (Lib.intSat 64 a0.data.toList, some 0) | _ => some (0, some 0)) else none) else none) else none
theorem strconv_ParseInt.calls (a0 : ByteArray) (a1 : Int) (a2 : Int) (r1 : Int) (r2 : Option Int) (w : World) (hT0 : Kd.C Kd.errk w (some ⟨0, 0, none⟩) tabG0.length tabG0) (hT1 : Kd.C Kd.errk w (some ⟨1, 0, none⟩) tabG1.length tabG1) (h : strconv_ParseInt.f a0 a1 a2 = some (r1, r2)) :
    Calls Tryd.prog 65 #[.string a0, .int .i64 a1, .int .i64 a2] w fun e w' => ∃ (et1_ : Nat) (ep1_ : Value), e = .returned (.tuple #[.int .i64 r1, errX et1_ ep1_ r2]) ∧ Below w.heap.size w w' := by
  obtain ⟨te6, pe6, hv6⟩ := errk_cell hT0
  obtain ⟨te7, pe7, hv7⟩ := errk_cell hT1
  unfold strconv_ParseInt.f at h
  by_cases h1 : a1 = 10
  · by_cases h2 : a2 = 64
    · by_cases hs : a0.size ≤ 140737488351232
      · rw [if_pos h1, if_pos h2, if_pos hs] at h
        subst h1
        subst h2
        cases hp : Lib.parseIntB 64 a0.data.toList with
        | ok v =>
          rw [hp] at h
          simp only [Option.some.injEq, Prod.mk.injEq] at h
          obtain ⟨rfl, rfl⟩ := h
          refine (Any.strconv_ParseInt_10_at64_ok Tryd.laysC174 a0 (by omega) v hp w).mono ?_
          rintro e w' ⟨rfl, hd⟩
          refine ⟨0, .nilIface, rfl, ?_⟩
          rcases hd with rfl | ⟨t, rfl⟩
          · exact Below.refl _ _
          · exact Lib.bytesWorld_below _ _ _
        | range =>
          rw [hp] at h
          simp only [Option.some.injEq, Prod.mk.injEq] at h
          obtain ⟨rfl, rfl⟩ := h
          refine (Any.strconv_ParseInt_10_at64_range Tryd.laysC174 a0 (by omega) hp _ w hv7 (.inr ⟨_, _, rfl⟩)).mono ?_
          rintro e w' ⟨N, rfl, _, _, hd⟩
          exact ⟨_, _, rfl, hd⟩
        | _ =>
          rw [hp] at h
          simp only [Option.some.injEq, Prod.mk.injEq] at h
          obtain ⟨rfl, rfl⟩ := h
          refine (Any.strconv_ParseInt_10_at64_syntax Tryd.laysC174 a0 (by omega) hp _ w hv6 (.inr ⟨_, _, rfl⟩)).mono ?_
          rintro e w' ⟨N, rfl, _, _, hd⟩
          exact ⟨_, _, rfl, hd⟩
      · rw [if_pos h1, if_pos h2, if_neg hs] at h
        cases h
    · rw [if_pos h1, if_neg h2] at h
      cases h
  · rw [if_neg h1] at h
    cases h

end Go.Proofs.YtnajijaachgipaaDoor.PF
