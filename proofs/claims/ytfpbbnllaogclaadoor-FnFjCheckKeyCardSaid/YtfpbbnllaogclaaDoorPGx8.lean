-- Written by a program of this session out of the translation (a changed copy of the kit's print); Lean checks it.
import Derived.Test.YtfpbbnllaogclaaDoorPGx0
import Derived.Test.YtfpbbnllaogclaaDoorPGx3
import Derived.Test.YtfpbbnllaogclaaDoorPGx7
namespace Go.Proofs.YtfpbbnllaogclaaDoor.PG
open Go.RowKit Go.Proofs.YtfpbbnllaogclaaDoorW.PrintWords Go.Proofs.YtfpbbnllaogclaaDoorW.PrintLast Go.Proofs.YtfpbbnllaogclaaDoorW.PrintMore
attribute [local go_sem] max2_int min2_int max_two min_two max_three min_three max_four min_four   -- for this text's walks alone
set_option linter.unusedVariables false
set_option linter.unusedSimpArgs false

/-! ### laws_fjInsideEnd: function 26 -/
def laws_fjInsideEnd.f (k : Nat) (a0 : ByteArray) : Option (ByteArray × Bool) := (spec_Closing.f k a0).bind fun t113 => (if t113 < 0 then (some ((⟨#[]⟩ : ByteArray), false)) else (if 0 ≤ t113 then (if t113 ≤ (a0.size : Int) then ((spec_Escapes.f k (a0.extract 0 (t113 : Int).toNat)).bind fun t114 => (if t114 = true then (if 0 ≤ (wrap64 (t113 + 1)) then (if (wrap64 (t113 + 1)) ≤ (a0.size : Int) then (some (a0.extract ((wrap64 (t113 + 1)) : Int).toNat a0.size, true)) else (none)) else (none)) else (some ((⟨#[]⟩ : ByteArray), false)))) else (none)) else (none)))
theorem laws_fjInsideEnd.mono : ∀ a0 k, LeO (laws_fjInsideEnd.f k a0) (laws_fjInsideEnd.f (k + 1) a0) := by
  intro a0 k
  unfold laws_fjInsideEnd.f
  repeat' first
      | (with_reducible exact spec_Closing.mono _ _)
      | (with_reducible exact spec_Escapes.mono _ _)
      | (with_reducible exact LeO.refl _)
      | (with_reducible exact LeO.none _)
      | (with_reducible refine LeO.ite ?_ ?_)
      | (with_reducible refine LeO.bind ?_ (fun _ => ?_))
      | exact spec_Closing.mono _ _
      | exact spec_Escapes.mono _ _
      | exact LeO.none _
      | refine LeO.ite ?_ ?_
      | refine LeO.bind ?_ (fun _ => ?_)
set_option maxHeartbeats 8000000 in
set_option maxRecDepth 100000 in
theorem laws_fjInsideEnd.calls (k : Nat) (a0 : ByteArray) (r1 : ByteArray) (r2 : Bool) (w : World) (h : laws_fjInsideEnd.f k a0 = some (r1, r2)) :
    Calls Tryd.prog 26 #[.string a0] w fun e w' => e = .returned (.tuple #[.string r1, .bool r2]) ∧ Below w.heap.size w w' := by
  have HB := Aside0.mk (Below.refl w.heap.size w)
  have H : ((spec_Closing.f k a0).bind fun t113 => (if t113 < 0 then (some ((⟨#[]⟩ : ByteArray), false)) else (if 0 ≤ t113 then (if t113 ≤ (a0.size : Int) then ((spec_Escapes.f k (a0.extract 0 (t113 : Int).toNat)).bind fun t114 => (if t114 = true then (if 0 ≤ (wrap64 (t113 + 1)) then (if (wrap64 (t113 + 1)) ≤ (a0.size : Int) then (some (a0.extract ((wrap64 (t113 + 1)) : Int).toNat a0.size, true)) else (none)) else (none)) else (some ((⟨#[]⟩ : ByteArray), false)))) else (none)) else (none)))) = some (r1, r2) := h
  clear h
  replace H := Option.bind_eq_some_iff.mp H
  obtain ⟨t113, A20, H⟩ := H
  replace H : (if t113 < 0 then (some ((⟨#[]⟩ : ByteArray), false)) else (if 0 ≤ t113 then (if t113 ≤ (a0.size : Int) then ((spec_Escapes.f k (a0.extract 0 (t113 : Int).toNat)).bind fun t114 => (if t114 = true then (if 0 ≤ (wrap64 (t113 + 1)) then (if (wrap64 (t113 + 1)) ≤ (a0.size : Int) then (some (a0.extract ((wrap64 (t113 + 1)) : Int).toNat a0.size, true)) else (none)) else (none)) else (some ((⟨#[]⟩ : ByteArray), false)))) else (none)) else (none))) = some (r1, r2) := H
  have A2 := Aside0.mk A20
  clear A20
  by_cases c3 : t113 < 0
  · rw [if_pos c3] at H
    have c3b0 : decide (t113 < 0) = true := decide_eq_true c3
    clear c3
    simp only [Option.some.injEq, Prod.mk.injEq] at H
    obtain ⟨rfl, rfl⟩ := H
    go_enter Tryd.func26, Tryd.ntmps26
    go_wp2_with (first | ((with_reducible refine gate_callee (f := 48) rfl ?_); refine goesL_ (some 6) rfl rfl Tryd.func48 (by kernel_rfl) rfl #[.string a0] rfl (by (try simp only [List.map_toArray, List.map_cons, List.map_nil]); first | done | rfl | (simp only [List.length_drop, List.length_take]; rfl)) ?_; (with_reducible refine (spec_Closing.calls k a0 t113 _ A2.out).mono ?_); rintro e w' ⟨rfl, ⟨nd, rfl⟩⟩; refine ⟨_, rfl, ?_⟩))
    go_ret2
    exact ⟨by first | rfl | (simp [errW_none, errW_some] <;> rfl) | (simp [*, errW_none, errW_some] <;> rfl), by repeat (first | (with_reducible first | exact HB.out | apply below_alloc | apply pw_below_drewN | apply below_drew1) | exact HB.out)⟩
  · rw [if_neg c3] at H
    have c3b0 : decide (t113 < 0) = false := decide_eq_false c3
    clear c3
    by_cases c4 : 0 ≤ t113
    · rw [if_pos c4] at H
      have c4b0 := eq_true c4
      have c4b1 : decide (0 ≤ t113) = true := decide_eq_true c4
      clear c4
      by_cases c5 : t113 ≤ (a0.size : Int)
      · rw [if_pos c5] at H
        have c5b0 := eq_true c5
        have c5b1 : decide (t113 ≤ (a0.size : Int)) = true := decide_eq_true c5
        clear c5
        obtain ⟨js6, hjs6⟩ : ∃ z_ : ByteArray, (a0.extract 0 (t113 : Int).toNat) = z_ := ⟨_, rfl⟩
        replace H : ((spec_Escapes.f k js6).bind fun t114 => (if t114 = true then (if 0 ≤ (wrap64 (t113 + 1)) then (if (wrap64 (t113 + 1)) ≤ (a0.size : Int) then (some (a0.extract ((wrap64 (t113 + 1)) : Int).toNat a0.size, true)) else (none)) else (none)) else (some ((⟨#[]⟩ : ByteArray), false)))) = some (r1, r2) := by first | (rw [hjs6] at H; exact H) | (simp only [hjs6] at H ⊢; exact H)
        replace H := Option.bind_eq_some_iff.mp H
        obtain ⟨t114, A70, H⟩ := H
        replace H : (if t114 = true then (if 0 ≤ (wrap64 (t113 + 1)) then (if (wrap64 (t113 + 1)) ≤ (a0.size : Int) then (some (a0.extract ((wrap64 (t113 + 1)) : Int).toNat a0.size, true)) else (none)) else (none)) else (some ((⟨#[]⟩ : ByteArray), false))) = some (r1, r2) := H
        have A7 := Aside0.mk A70
        clear A70
        by_cases c8 : t114 = true
        · subst c8
          have H1 : (if 0 ≤ (wrap64 (t113 + 1)) then (if (wrap64 (t113 + 1)) ≤ (a0.size : Int) then (some (a0.extract ((wrap64 (t113 + 1)) : Int).toNat a0.size, true)) else (none)) else (none)) = some (r1, r2) := by rw [if_pos rfl] at H; exact H
          clear H
          have H := H1
          clear H1
          obtain ⟨ji9, hji9⟩ : ∃ j_ : Int, (wrap64 (t113 + 1)) = j_ := ⟨_, rfl⟩
          replace H : (if 0 ≤ (ji9) then (if (ji9) ≤ (a0.size : Int) then (some (a0.extract ((ji9) : Int).toNat a0.size, true)) else (none)) else (none)) = some (r1, r2) := by first | (rw [hji9] at H; exact H) | (simp only [hji9] at H ⊢; exact H)
          (try rw [hji9] at A2)
          (try rw [hji9] at A7)
          have hji9w : (IntKind.i64.wrap (t113 + 1)) = ji9 := (i64_w _).trans hji9
          by_cases c10 : 0 ≤ (ji9)
          · rw [if_pos c10] at H
            have c10b0 := eq_true c10
            have c10b1 : decide (0 ≤ (ji9)) = true := decide_eq_true c10
            clear c10
            by_cases c11 : (ji9) ≤ (a0.size : Int)
            · rw [if_pos c11] at H
              have c11b0 := eq_true c11
              have c11b1 : decide ((ji9) ≤ (a0.size : Int)) = true := decide_eq_true c11
              clear c11
              simp only [Option.some.injEq, Prod.mk.injEq] at H
              obtain ⟨rfl, rfl⟩ := H
              go_enter Tryd.func26, Tryd.ntmps26
              go_wp2_with (first | ((with_reducible refine gate_callee (f := 48) rfl ?_); refine goesL_ (some 6) rfl rfl Tryd.func48 (by kernel_rfl) rfl #[.string a0] rfl (by (try simp only [List.map_toArray, List.map_cons, List.map_nil]); first | done | rfl | (simp only [List.length_drop, List.length_take]; rfl)) ?_; (with_reducible refine (spec_Closing.calls k a0 t113 _ A2.out).mono ?_); rintro e w' ⟨rfl, ⟨nd, rfl⟩⟩; refine ⟨_, rfl, ?_⟩; try have hcs12 := fun W_ : World => run_slice_string_h (P := Tryd.prog) W_ 9 a0 Tryd.underlying9 .i64 t113 (of_decide_eq_true (by first | (with_reducible assumption) | assumption)) (of_decide_eq_true (by first | (with_reducible assumption) | assumption)); (try simp only [hjs6] at hcs12)) | (go_at_call 49; (with_reducible refine (spec_Escapes.calls k js6 true _ A7.out).mono ?_); rintro e w13 ⟨rfl, hb⟩; have n0_ := Aside0.mk (below_step (by repeat (first | (with_reducible first | exact HB.out | apply below_alloc | apply pw_below_drewN | apply below_drew1) | exact HB.out)) hb); clear HB; have HB := n0_; clear n0_; (try clear hb); (try clear hb2); (try clear hk); (try clear hi); try have hcs14 := fun W_ : World => run_slice_string_l (P := Tryd.prog) W_ 9 a0 Tryd.underlying9 .i64 (ji9) (of_decide_eq_true (by first | (with_reducible assumption) | assumption)) (of_decide_eq_true (by first | (with_reducible assumption) | assumption))))
              go_ret2
              exact ⟨by first | rfl | (simp [errW_none, errW_some] <;> rfl) | (simp only [← hji9]; first | rfl | (simp [errW_none, errW_some] <;> rfl)) | (simp [*, errW_none, errW_some] <;> rfl), by repeat (first | (with_reducible first | exact HB.out | apply below_alloc | apply pw_below_drewN | apply below_drew1) | exact HB.out)⟩
            · rw [if_neg c11] at H
              exact absurd H (by simp)
          · rw [if_neg c10] at H
            exact absurd H (by simp)
        · replace c8 := Bool.eq_false_iff.mpr c8
          subst c8
          have H1 : (some ((⟨#[]⟩ : ByteArray), false)) = some (r1, r2) := by rw [if_neg (show ¬ (false = true) by decide)] at H; exact H
          clear H
          have H := H1
          clear H1
          simp only [Option.some.injEq, Prod.mk.injEq] at H
          obtain ⟨rfl, rfl⟩ := H
          go_enter Tryd.func26, Tryd.ntmps26
          go_wp2_with (first | ((with_reducible refine gate_callee (f := 48) rfl ?_); refine goesL_ (some 6) rfl rfl Tryd.func48 (by kernel_rfl) rfl #[.string a0] rfl (by (try simp only [List.map_toArray, List.map_cons, List.map_nil]); first | done | rfl | (simp only [List.length_drop, List.length_take]; rfl)) ?_; (with_reducible refine (spec_Closing.calls k a0 t113 _ A2.out).mono ?_); rintro e w' ⟨rfl, ⟨nd, rfl⟩⟩; refine ⟨_, rfl, ?_⟩; try have hcs15 := fun W_ : World => run_slice_string_h (P := Tryd.prog) W_ 9 a0 Tryd.underlying9 .i64 t113 (of_decide_eq_true (by first | (with_reducible assumption) | assumption)) (of_decide_eq_true (by first | (with_reducible assumption) | assumption)); (try simp only [hjs6] at hcs15)) | (go_at_call 49; (with_reducible refine (spec_Escapes.calls k js6 false _ A7.out).mono ?_); rintro e w16 ⟨rfl, hb⟩; have n0_ := Aside0.mk (below_step (by repeat (first | (with_reducible first | exact HB.out | apply below_alloc | apply pw_below_drewN | apply below_drew1) | exact HB.out)) hb); clear HB; have HB := n0_; clear n0_; (try clear hb); (try clear hb2); (try clear hk); (try clear hi)))
          go_ret2
          exact ⟨by first | rfl | (simp [errW_none, errW_some] <;> rfl) | (simp [*, errW_none, errW_some] <;> rfl), by repeat (first | (with_reducible first | exact HB.out | apply below_alloc | apply pw_below_drewN | apply below_drew1) | exact HB.out)⟩
      · rw [if_neg c5] at H
        exact absurd H (by simp)
    · rw [if_neg c4] at H
      exact absurd H (by simp)

end Go.Proofs.YtfpbbnllaogclaaDoor.PG
