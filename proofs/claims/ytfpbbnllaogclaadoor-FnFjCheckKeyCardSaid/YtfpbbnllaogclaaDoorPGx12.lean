-- Written by a program of this session out of the translation (a changed copy of the kit's print); Lean checks it.
import Derived.Test.YtfpbbnllaogclaaDoorPGx0
import Derived.Test.YtfpbbnllaogclaaDoorPGx1
import Derived.Test.YtfpbbnllaogclaaDoorPGx2
namespace Go.Proofs.YtfpbbnllaogclaaDoor.PG
open Go.RowKit Go.Proofs.YtfpbbnllaogclaaDoorW.PrintWords Go.Proofs.YtfpbbnllaogclaaDoorW.PrintLast Go.Proofs.YtfpbbnllaogclaaDoorW.PrintMore
attribute [local go_sem] max2_int min2_int max_two min_two max_three min_three max_four min_four   -- for this text's walks alone
set_option linter.unusedVariables false
set_option linter.unusedSimpArgs false

/-! ### strconv_ParseUint: function 100, by hand -/
def strconv_ParseUint.f (a0 : ByteArray) (a1 : Int) (a2 : Int) : Option (Int × Option Int) := if a1 = 16 then (if a2 = 16 then (if 0 < a0.size then (if a0.size ≤ 140737488351232 then some ((H.hx a0.data.toList 0).1, (H.hx a0.data.toList 0).2.map fun _ => 0) else none) else none) else none) else none
theorem strconv_ParseUint.calls (a0 : ByteArray) (a1 : Int) (a2 : Int) (r1 : Int) (r2 : Option Int) (w : World) (hT6 : Kd.C Kd.errk w (some ⟨6, 0, none⟩) tabG6.length tabG6) (hT7 : Kd.C Kd.errk w (some ⟨7, 0, none⟩) tabG7.length tabG7) (h : strconv_ParseUint.f a0 a1 a2 = some (r1, r2)) :
    Calls Tryd.prog 100 #[.string a0, .int .i64 a1, .int .i64 a2] w fun e w' => ∃ (et1_ : Nat) (ep1_ : Value), e = .returned (.tuple #[.int .u64 r1, errX et1_ ep1_ r2]) ∧ Below w.heap.size w w' := by
  obtain ⟨te6, pe6, hv6⟩ := errk_cell hT6
  obtain ⟨te7, pe7, hv7⟩ := errk_cell hT7
  have hG6 : 6 < w.heap.size := Lib.lt_of_cell hv6
  have hG7 : 7 < w.heap.size := Lib.lt_of_cell hv7
  unfold strconv_ParseUint.f at h
  by_cases h1 : a1 = 16
  · by_cases h2 : a2 = 16
    · by_cases hp : 0 < a0.size
      · by_cases hs : a0.size ≤ 140737488351232
        · rw [if_pos h1, if_pos h2, if_pos hp, if_pos hs] at h
          subst h1
          subst h2
          have hne : a0.toList ≠ [] := fun e => by
            have := congrArg List.length e
            rw [Go.ByteArray.toList_eq] at this
            simp only [List.length_nil, Array.length_toList] at this
            have hz : a0.size = a0.data.size := rfl
            omega
          have hin := fun W => H.parseUint a0 W hne hs
          have hrc := H.hx_err a0.data.toList 0
          clear hT6 hT7 hp
          obtain ⟨x, hx⟩ : ∃ x, x = H.hx a0.data.toList 0 := ⟨_, rfl⟩
          rw [← hx] at h hrc
          have hin : ∀ W, Calls Tryd.prog 114 #[.string a0, .int .i64 16, .int .i64 16] W fun e w' => e = .returned (.tuple #[.int .u64 x.1, H.errI x.2]) ∧ Below W.heap.size W w' := by
            rw [hx]; exact hin
          clear hx
          obtain ⟨m, e⟩ := x
          simp only [Option.some.injEq, Prod.mk.injEq] at h
          obtain ⟨rfl, rfl⟩ := h
          have hlim : a0.size ≤ 281474976710656 := by omega
          rcases e with _ | c
          · refine (H.pu_none a0 m w (hin w)).mono ?_
            rintro e w' ⟨rfl, hd⟩
            exact ⟨0, .nilIface, rfl, hd⟩
          · rcases hrc c rfl with rfl | rfl
            · refine (H.pu_syntax a0 m te6 pe6 w hlim hv6 (hin w)).mono ?_
              rintro e w' ⟨p, rfl, hd⟩
              exact ⟨_, _, rfl, hd⟩
            · refine (H.pu_range a0 m te7 pe7 w hlim hv7 (hin w)).mono ?_
              rintro e w' ⟨p, rfl, hd⟩
              exact ⟨_, _, rfl, hd⟩
        · rw [if_pos h1, if_pos h2, if_pos hp, if_neg hs] at h
          cases h
      · rw [if_pos h1, if_pos h2, if_neg hp] at h
        cases h
    · rw [if_pos h1, if_neg h2] at h
      cases h
  · rw [if_neg h1] at h
    cases h

end Go.Proofs.YtfpbbnllaogclaaDoor.PG
