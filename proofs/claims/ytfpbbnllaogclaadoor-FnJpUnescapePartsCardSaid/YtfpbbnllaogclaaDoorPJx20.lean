-- Written by a program of this session out of the translation (a changed copy of the kit's print); Lean checks it.
import Derived.Test.YtfpbbnllaogclaaDoorPJx0
import Derived.Test.YtfpbbnllaogclaaDoorPJx1
import Derived.Test.YtfpbbnllaogclaaDoorPJx2
import Derived.Test.YtfpbbnllaogclaaDoorPJx7
import Derived.Test.YtfpbbnllaogclaaDoorPJx13
import Derived.Test.YtfpbbnllaogclaaDoorPJx19
namespace Go.Proofs.YtfpbbnllaogclaaDoor.PJ
open Go.RowKit Go.Proofs.YtfpbbnllaogclaaDoorW.PrintWords Go.Proofs.YtfpbbnllaogclaaDoorW.PrintLast Go.Proofs.YtfpbbnllaogclaaDoorW.PrintMore
attribute [local go_sem] max2_int min2_int max_two min_two max_three min_three max_four min_four   -- for this text's walks alone
set_option linter.unusedVariables false
set_option linter.unusedSimpArgs false

/-! ### laws_FnJpUnescapeParts: function 7 -/
mutual
def laws_FnJpUnescapeParts.j0 : Nat → ByteArray → ByteArray → Bool → Option (Bool)
  | 0, _, _, _ => none
  | k + 1, x0, x1, x22 => if x22 = true then (some true) else (if (x0.size : Int) > 65536 then (laws_FnJpUnescapeParts.j1 k x0 x1 true) else (if (x1.size : Int) > 65536 then (laws_FnJpUnescapeParts.j1 k x0 x1 true) else ((spec_Paired.f k x0).bind fun t194 => (if t194 = true then ((spec_Paired.f k x1).bind fun t195 => (laws_FnJpUnescapeParts.j1 k x0 x1 (!t195))) else (laws_FnJpUnescapeParts.j1 k x0 x1 true)))))
def laws_FnJpUnescapeParts.j1 : Nat → ByteArray → ByteArray → Bool → Option (Bool)
  | 0, _, _, _ => none
  | k + 1, x0, x1, x40 => if x40 = true then (some true) else ((spec_Unescape.f k x0).bind fun bt196 => (if bt196.2 = true then ((spec_Unescape.f k x1).bind fun bt198 => (if bt198.2 = true then ((impl_JpUnescape.f k x0 (x0.size : Int)).bind fun bt200 => ((impl_JpUnescape.f k x1 (x1.size : Int)).bind fun bt202 => (if x0.size + x1.size ≤ 9223372036854775807 then ((impl_JpUnescape.f k (x0 ++ x1) (wrap64 ((x0.size : Int) + (x1.size : Int)))).bind fun bt204 => (if bt200.2 = true then (if bt202.2 = true then (if bt204.2 = true then (if bt200.1.size + bt202.1.size ≤ 9223372036854775807 then (some (bt204.1.toList == (bt200.1 ++ bt202.1).toList)) else (none)) else (some false)) else (some false)) else (some false))) else (none)))) else (some true))) else (some true)))
end
def laws_FnJpUnescapeParts.f (k : Nat) (a0 : ByteArray) (a1 : ByteArray) : Option (Bool) := if (a0.size : Int) > 2147483647 then (laws_FnJpUnescapeParts.j0 k a0 a1 true) else (laws_FnJpUnescapeParts.j0 k a0 a1 (decide ((a1.size : Int) > 2147483647)))
theorem laws_FnJpUnescapeParts.mono_l : ∀ k, (∀ y0 y1 y2, LeO (laws_FnJpUnescapeParts.j0 k y0 y1 y2) (laws_FnJpUnescapeParts.j0 (k + 1) y0 y1 y2)) ∧ (∀ y0 y1 y2, LeO (laws_FnJpUnescapeParts.j1 k y0 y1 y2) (laws_FnJpUnescapeParts.j1 (k + 1) y0 y1 y2))
  | 0 => ⟨fun _ _ _ r h => by simp [laws_FnJpUnescapeParts.j0] at h, fun _ _ _ r h => by simp [laws_FnJpUnescapeParts.j1] at h⟩
  | k + 1 => by
    obtain ⟨ih0, ih1⟩ := laws_FnJpUnescapeParts.mono_l k
    refine ⟨?_, ?_⟩
    · intro y0 y1 y2
      unfold laws_FnJpUnescapeParts.j0
      repeat' first
      | (with_reducible exact ih0 _ _ _)
      | (with_reducible exact ih1 _ _ _)
      | (with_reducible exact impl_JpUnescape.mono _ _ _)
      | (with_reducible exact spec_Paired.mono _ _)
      | (with_reducible exact spec_Unescape.mono _ _)
      | (with_reducible exact LeO.refl _)
      | (with_reducible exact LeO.none _)
      | (with_reducible refine LeO.ite ?_ ?_)
      | (with_reducible refine LeO.bind ?_ (fun _ => ?_))
      | exact ih0 _ _ _
      | exact ih1 _ _ _
      | exact impl_JpUnescape.mono _ _ _
      | exact spec_Paired.mono _ _
      | exact spec_Unescape.mono _ _
      | exact LeO.none _
      | refine LeO.ite ?_ ?_
      | refine LeO.bind ?_ (fun _ => ?_)
    · intro y0 y1 y2
      unfold laws_FnJpUnescapeParts.j1
      repeat' first
      | (with_reducible exact ih0 _ _ _)
      | (with_reducible exact ih1 _ _ _)
      | (with_reducible exact impl_JpUnescape.mono _ _ _)
      | (with_reducible exact spec_Paired.mono _ _)
      | (with_reducible exact spec_Unescape.mono _ _)
      | (with_reducible exact LeO.refl _)
      | (with_reducible exact LeO.none _)
      | (with_reducible refine LeO.ite ?_ ?_)
      | (with_reducible refine LeO.bind ?_ (fun _ => ?_))
      | exact ih0 _ _ _
      | exact ih1 _ _ _
      | exact impl_JpUnescape.mono _ _ _
      | exact spec_Paired.mono _ _
      | exact spec_Unescape.mono _ _
      | exact LeO.none _
      | refine LeO.ite ?_ ?_
      | refine LeO.bind ?_ (fun _ => ?_)
theorem laws_FnJpUnescapeParts.mono : ∀ a0 a1 k, LeO (laws_FnJpUnescapeParts.f k a0 a1) (laws_FnJpUnescapeParts.f (k + 1) a0 a1) := by
  intro a0 a1 k
  obtain ⟨ih0, ih1⟩ := laws_FnJpUnescapeParts.mono_l k
  unfold laws_FnJpUnescapeParts.f
  repeat' first
      | (with_reducible exact ih0 _ _ _)
      | (with_reducible exact ih1 _ _ _)
      | (with_reducible exact impl_JpUnescape.mono _ _ _)
      | (with_reducible exact spec_Paired.mono _ _)
      | (with_reducible exact spec_Unescape.mono _ _)
      | (with_reducible exact LeO.refl _)
      | (with_reducible exact LeO.none _)
      | (with_reducible refine LeO.ite ?_ ?_)
      | (with_reducible refine LeO.bind ?_ (fun _ => ?_))
      | exact ih0 _ _ _
      | exact ih1 _ _ _
      | exact impl_JpUnescape.mono _ _ _
      | exact spec_Paired.mono _ _
      | exact spec_Unescape.mono _ _
      | exact LeO.none _
      | refine LeO.ite ?_ ?_
      | refine LeO.bind ?_ (fun _ => ?_)
set_option maxHeartbeats 8000000 in
set_option maxRecDepth 100000 in
theorem laws_FnJpUnescapeParts.calls (k : Nat) (a0 : ByteArray) (a1 : ByteArray) (r : Bool) (w : World) (hT0 : Kd.C Kd.cfgk w (some ⟨0, 0, none⟩) tabG0.length tabG0) (hT2 : Kd.C (Kd.int .u8) w (some ⟨2, 0, none⟩) tabG2.length tabG2) (h : laws_FnJpUnescapeParts.f k a0 a1 = some r) :
    Calls Tryd.prog 7 #[.string a0, .string a1] w fun e w' => e = .returned (.bool r) ∧ Below w.heap.size w w' := by
  have HRG0 := Aside0.mk hT0
  clear hT0
  have HRG2 := Aside0.mk hT2
  clear hT2
  have HB := Aside0.mk (Below.refl w.heap.size w)
  have H : (if (a0.size : Int) > 2147483647 then (laws_FnJpUnescapeParts.j0 k a0 a1 true) else (laws_FnJpUnescapeParts.j0 k a0 a1 (decide ((a1.size : Int) > 2147483647)))) = some r := h
  clear h
  have HC3 := Aside0.mk H
  clear H
  go_enter Tryd.func7, Tryd.ntmps7
  go_upto_region 1 with (fail)
  go_cut [22] (fun v22 wc => ∃ (kq : Nat) (x22_2 : Bool), v22 = .bool x22_2 ∧ Aside0 (laws_FnJpUnescapeParts.j0 kq a0 a1 x22_2 = some r) ∧ Aside0 (kq ≤ k) ∧ Aside0 (Below w.heap.size w wc))
  case first =>
    have H := HC3.out
    clear HC3
    by_cases c4 : (a0.size : Int) > 2147483647
    · rw [if_pos c4] at H
      have c4b0 : decide (2147483647 < (a0.size : Int)) = true := decide_eq_true c4
      have c4b1 : decide (2147483647 < a0.size) = true := decide_eq_true (by omega)
      clear c4
      (first | rw [c4b0] | (simp only [i64_w, i32_w]; rw [c4b0]) | rw [c4b1] | skip)
      have H' := Aside0.mk H
      clear H
      go_wp2
      go_meet
      case rel => exact ⟨_, (true), (by first | rfl | (simp; done) | (simp [*]; done)), H', ⟨by first | omega | exact Nat.le_refl _⟩, ⟨by repeat (first | (with_reducible first | exact HB.out | apply below_alloc | apply pw_below_drewN | apply below_drew1) | exact HB.out)⟩⟩
    · rw [if_neg c4] at H
      have c4b0 : decide (2147483647 < (a0.size : Int)) = false := decide_eq_false c4
      have c4b1 : decide (2147483647 < a0.size) = false := decide_eq_false (by omega)
      clear c4
      (first | rw [c4b0] | (simp only [i64_w, i32_w]; rw [c4b0]) | rw [c4b1] | skip)
      have H' := Aside0.mk H
      clear H
      go_wp2
      go_meet
      case rel => exact ⟨_, (decide ((a1.size : Int) > 2147483647)), (by first | rfl | (simp; done) | (simp [*]; done)), H', ⟨by first | omega | exact Nat.le_refl _⟩, ⟨by repeat (first | (with_reducible first | exact HB.out | apply below_alloc | apply pw_below_drewN | apply below_drew1) | exact HB.out)⟩⟩
  case rest =>
    clear HC3
    try clear p2
    try clear c4
    try clear c4b0
    try clear c4b1
    obtain ⟨kq, x22_2, rfl, HA, HJ2, HB⟩ := hcut
    cases kq with
    | zero => exact absurd HA.out (by simp [laws_FnJpUnescapeParts.j0])
    | succ kj2 =>
      have H := HA.out
      clear HA
      simp only [laws_FnJpUnescapeParts.j0] at H
      by_cases c5 : x22_2 = true
      · subst c5
        have H1 : (some true) = some r := by rw [if_pos rfl] at H; exact H
        clear H
        have H := H1
        clear H1
        obtain rfl := Option.some.inj H
        go_wp2
        go_ret
        exact ⟨by first | rfl | (simp [errW_none, errW_some] <;> rfl) | (simp [*, errW_none, errW_some] <;> rfl), by repeat (first | (with_reducible first | exact HB.out | apply below_alloc | apply pw_below_drewN | apply below_drew1) | exact HB.out)⟩
      · replace c5 := Bool.eq_false_iff.mpr c5
        subst c5
        have H1 : (if (a0.size : Int) > 65536 then (laws_FnJpUnescapeParts.j1 kj2 a0 a1 true) else (if (a1.size : Int) > 65536 then (laws_FnJpUnescapeParts.j1 kj2 a0 a1 true) else ((spec_Paired.f kj2 a0).bind fun t194 => (if t194 = true then ((spec_Paired.f kj2 a1).bind fun t195 => (laws_FnJpUnescapeParts.j1 kj2 a0 a1 (!t195))) else (laws_FnJpUnescapeParts.j1 kj2 a0 a1 true))))) = some r := by rw [if_neg (show ¬ (false = true) by decide)] at H; exact H
        clear H
        have H := H1
        clear H1
        have HC6 := Aside0.mk H
        clear H
        go_upto_region 3 with (fail)
        go_cut [40] (fun v40 wc => ∃ (kq : Nat) (x40_5 : Bool), v40 = .bool x40_5 ∧ Aside0 (laws_FnJpUnescapeParts.j1 kq a0 a1 x40_5 = some r) ∧ Aside0 (kq ≤ kj2) ∧ Aside0 (Below w.heap.size w wc))
        case first =>
          have H := HC6.out
          clear HC6
          by_cases c7 : (a0.size : Int) > 65536
          · rw [if_pos c7] at H
            have c7b0 : decide (65536 < (a0.size : Int)) = true := decide_eq_true c7
            have c7b1 : decide (65536 < a0.size) = true := decide_eq_true (by omega)
            clear c7
            (first | rw [c7b0] | (simp only [i64_w, i32_w]; rw [c7b0]) | rw [c7b1] | skip)
            have H' := Aside0.mk H
            clear H
            go_wp2
            go_meet
            case rel => exact ⟨_, (true), (by first | rfl | (simp; done) | (simp [*]; done)), H', ⟨by have := HJ2.out; first | omega | exact Nat.le_refl _⟩, ⟨by repeat (first | (with_reducible first | exact HB.out | apply below_alloc | apply pw_below_drewN | apply below_drew1) | exact HB.out)⟩⟩
          · rw [if_neg c7] at H
            have c7b0 : decide (65536 < (a0.size : Int)) = false := decide_eq_false c7
            have c7b1 : decide (65536 < a0.size) = false := decide_eq_false (by omega)
            clear c7
            (first | rw [c7b0] | (simp only [i64_w, i32_w]; rw [c7b0]) | rw [c7b1] | skip)
            by_cases c8 : (a1.size : Int) > 65536
            · rw [if_pos c8] at H
              have c8b0 : decide (65536 < (a1.size : Int)) = true := decide_eq_true c8
              have c8b1 : decide (65536 < a1.size) = true := decide_eq_true (by omega)
              clear c8
              have H' := Aside0.mk H
              clear H
              go_wp2
              go_meet
              case rel => exact ⟨_, (true), (by first | rfl | (simp; done) | (simp [*]; done)), H', ⟨by have := HJ2.out; first | omega | exact Nat.le_refl _⟩, ⟨by repeat (first | (with_reducible first | exact HB.out | apply below_alloc | apply pw_below_drewN | apply below_drew1) | exact HB.out)⟩⟩
            · rw [if_neg c8] at H
              have c8b0 : decide (65536 < (a1.size : Int)) = false := decide_eq_false c8
              have c8b1 : decide (65536 < a1.size) = false := decide_eq_false (by omega)
              clear c8
              replace H := Option.bind_eq_some_iff.mp H
              obtain ⟨t194, A90, H⟩ := H
              replace H : (if t194 = true then ((spec_Paired.f kj2 a1).bind fun t195 => (laws_FnJpUnescapeParts.j1 kj2 a0 a1 (!t195))) else (laws_FnJpUnescapeParts.j1 kj2 a0 a1 true)) = some r := H
              have A9 := Aside0.mk A90
              clear A90
              by_cases c10 : t194 = true
              · subst c10
                have H1 : ((spec_Paired.f kj2 a1).bind fun t195 => (laws_FnJpUnescapeParts.j1 kj2 a0 a1 (!t195))) = some r := by rw [if_pos rfl] at H; exact H
                clear H
                have H := H1
                clear H1
                replace H := Option.bind_eq_some_iff.mp H
                obtain ⟨t195, A110, H⟩ := H
                replace H : (laws_FnJpUnescapeParts.j1 kj2 a0 a1 (!t195)) = some r := H
                have A11 := Aside0.mk A110
                clear A110
                have H' := Aside0.mk H
                clear H
                go_wp2_with (first | (go_at_call 23; (with_reducible refine (spec_Paired.calls kj2 a0 true _ A9.out).mono ?_); rintro e w' ⟨rfl, ⟨nd, rfl⟩⟩) | (go_at_call 23; (with_reducible refine (spec_Paired.calls kj2 a1 t195 _ A11.out).mono ?_); rintro e w' ⟨rfl, ⟨nd, rfl⟩⟩))
                go_meet
                case rel => exact ⟨_, (!t195), (by first | rfl | (simp; done) | (simp [*]; done)), H', ⟨by have := HJ2.out; first | omega | exact Nat.le_refl _⟩, ⟨by repeat (first | (with_reducible first | exact HB.out | apply below_alloc | apply pw_below_drewN | apply below_drew1) | exact HB.out)⟩⟩
              · replace c10 := Bool.eq_false_iff.mpr c10
                subst c10
                have H1 : (laws_FnJpUnescapeParts.j1 kj2 a0 a1 true) = some r := by rw [if_neg (show ¬ (false = true) by decide)] at H; exact H
                clear H
                have H := H1
                clear H1
                have H' := Aside0.mk H
                clear H
                go_wp2_with (first | (go_at_call 23; (with_reducible refine (spec_Paired.calls kj2 a0 false _ A9.out).mono ?_); rintro e w' ⟨rfl, ⟨nd, rfl⟩⟩))
                go_meet
                case rel => exact ⟨_, (true), (by first | rfl | (simp; done) | (simp [*]; done)), H', ⟨by have := HJ2.out; first | omega | exact Nat.le_refl _⟩, ⟨by repeat (first | (with_reducible first | exact HB.out | apply below_alloc | apply pw_below_drewN | apply below_drew1) | exact HB.out)⟩⟩
        case rest =>
          clear HC6
          try clear c1
          try clear p2
          try clear c4
          try clear c4b0
          try clear c4b1
          try clear c5
          try clear c7
          try clear c7b0
          try clear c7b1
          try clear c8
          try clear c8b0
          try clear c8b1
          try clear c10
          try clear p2
          obtain ⟨kq, x40_5, rfl, HA, HJ5, HB⟩ := hcut
          cases kq with
          | zero => exact absurd HA.out (by simp [laws_FnJpUnescapeParts.j1])
          | succ kj5 =>
            have H := HA.out
            clear HA
            simp only [laws_FnJpUnescapeParts.j1] at H
            by_cases c12 : x40_5 = true
            · subst c12
              have H1 : (some true) = some r := by rw [if_pos rfl] at H; exact H
              clear H
              have H := H1
              clear H1
              obtain rfl := Option.some.inj H
              go_wp2
              go_ret
              exact ⟨by first | rfl | (simp [errW_none, errW_some] <;> rfl) | (simp [*, errW_none, errW_some] <;> rfl), by repeat (first | (with_reducible first | exact HB.out | apply below_alloc | apply pw_below_drewN | apply below_drew1) | exact HB.out)⟩
            · replace c12 := Bool.eq_false_iff.mpr c12
              subst c12
              have H1 : ((spec_Unescape.f kj5 a0).bind fun bt196 => (if bt196.2 = true then ((spec_Unescape.f kj5 a1).bind fun bt198 => (if bt198.2 = true then ((impl_JpUnescape.f kj5 a0 (a0.size : Int)).bind fun bt200 => ((impl_JpUnescape.f kj5 a1 (a1.size : Int)).bind fun bt202 => (if a0.size + a1.size ≤ 9223372036854775807 then ((impl_JpUnescape.f kj5 (a0 ++ a1) (wrap64 ((a0.size : Int) + (a1.size : Int)))).bind fun bt204 => (if bt200.2 = true then (if bt202.2 = true then (if bt204.2 = true then (if bt200.1.size + bt202.1.size ≤ 9223372036854775807 then (some (bt204.1.toList == (bt200.1 ++ bt202.1).toList)) else (none)) else (some false)) else (some false)) else (some false))) else (none)))) else (some true))) else (some true))) = some r := by rw [if_neg (show ¬ (false = true) by decide)] at H; exact H
              clear H
              have H := H1
              clear H1
              replace H := Option.bind_eq_some_iff.mp H
              obtain ⟨⟨t196, t197⟩, A130, H⟩ := H
              replace H : (if t197 = true then ((spec_Unescape.f kj5 a1).bind fun bt198 => (if bt198.2 = true then ((impl_JpUnescape.f kj5 a0 (a0.size : Int)).bind fun bt200 => ((impl_JpUnescape.f kj5 a1 (a1.size : Int)).bind fun bt202 => (if a0.size + a1.size ≤ 9223372036854775807 then ((impl_JpUnescape.f kj5 (a0 ++ a1) (wrap64 ((a0.size : Int) + (a1.size : Int)))).bind fun bt204 => (if bt200.2 = true then (if bt202.2 = true then (if bt204.2 = true then (if bt200.1.size + bt202.1.size ≤ 9223372036854775807 then (some (bt204.1.toList == (bt200.1 ++ bt202.1).toList)) else (none)) else (some false)) else (some false)) else (some false))) else (none)))) else (some true))) else (some true)) = some r := H
              have A13 := Aside0.mk A130
              clear A130
              by_cases c14 : t197 = true
              · subst c14
                have H1 : ((spec_Unescape.f kj5 a1).bind fun bt198 => (if bt198.2 = true then ((impl_JpUnescape.f kj5 a0 (a0.size : Int)).bind fun bt200 => ((impl_JpUnescape.f kj5 a1 (a1.size : Int)).bind fun bt202 => (if a0.size + a1.size ≤ 9223372036854775807 then ((impl_JpUnescape.f kj5 (a0 ++ a1) (wrap64 ((a0.size : Int) + (a1.size : Int)))).bind fun bt204 => (if bt200.2 = true then (if bt202.2 = true then (if bt204.2 = true then (if bt200.1.size + bt202.1.size ≤ 9223372036854775807 then (some (bt204.1.toList == (bt200.1 ++ bt202.1).toList)) else (none)) else (some false)) else (some false)) else (some false))) else (none)))) else (some true))) = some r := by rw [if_pos rfl] at H; exact H
                clear H
                have H := H1
                clear H1
                replace H := Option.bind_eq_some_iff.mp H
                obtain ⟨⟨t198, t199⟩, A150, H⟩ := H
                replace H : (if t199 = true then ((impl_JpUnescape.f kj5 a0 (a0.size : Int)).bind fun bt200 => ((impl_JpUnescape.f kj5 a1 (a1.size : Int)).bind fun bt202 => (if a0.size + a1.size ≤ 9223372036854775807 then ((impl_JpUnescape.f kj5 (a0 ++ a1) (wrap64 ((a0.size : Int) + (a1.size : Int)))).bind fun bt204 => (if bt200.2 = true then (if bt202.2 = true then (if bt204.2 = true then (if bt200.1.size + bt202.1.size ≤ 9223372036854775807 then (some (bt204.1.toList == (bt200.1 ++ bt202.1).toList)) else (none)) else (some false)) else (some false)) else (some false))) else (none)))) else (some true)) = some r := H
                have A15 := Aside0.mk A150
                clear A150
                by_cases c16 : t199 = true
                · subst c16
                  have H1 : ((impl_JpUnescape.f kj5 a0 (a0.size : Int)).bind fun bt200 => ((impl_JpUnescape.f kj5 a1 (a1.size : Int)).bind fun bt202 => (if a0.size + a1.size ≤ 9223372036854775807 then ((impl_JpUnescape.f kj5 (a0 ++ a1) (wrap64 ((a0.size : Int) + (a1.size : Int)))).bind fun bt204 => (if bt200.2 = true then (if bt202.2 = true then (if bt204.2 = true then (if bt200.1.size + bt202.1.size ≤ 9223372036854775807 then (some (bt204.1.toList == (bt200.1 ++ bt202.1).toList)) else (none)) else (some false)) else (some false)) else (some false))) else (none)))) = some r := by rw [if_pos rfl] at H; exact H
                  clear H
                  have H := H1
                  clear H1
                  replace H := Option.bind_eq_some_iff.mp H
                  obtain ⟨⟨t200, t201⟩, A170, H⟩ := H
                  replace H : ((impl_JpUnescape.f kj5 a1 (a1.size : Int)).bind fun bt202 => (if a0.size + a1.size ≤ 9223372036854775807 then ((impl_JpUnescape.f kj5 (a0 ++ a1) (wrap64 ((a0.size : Int) + (a1.size : Int)))).bind fun bt204 => (if t201 = true then (if bt202.2 = true then (if bt204.2 = true then (if t200.size + bt202.1.size ≤ 9223372036854775807 then (some (bt204.1.toList == (t200 ++ bt202.1).toList)) else (none)) else (some false)) else (some false)) else (some false))) else (none))) = some r := H
                  have A17 := Aside0.mk A170
                  clear A170
                  replace H := Option.bind_eq_some_iff.mp H
                  obtain ⟨⟨t202, t203⟩, A180, H⟩ := H
                  replace H : (if a0.size + a1.size ≤ 9223372036854775807 then ((impl_JpUnescape.f kj5 (a0 ++ a1) (wrap64 ((a0.size : Int) + (a1.size : Int)))).bind fun bt204 => (if t201 = true then (if t203 = true then (if bt204.2 = true then (if t200.size + t202.size ≤ 9223372036854775807 then (some (bt204.1.toList == (t200 ++ t202).toList)) else (none)) else (some false)) else (some false)) else (some false))) else (none)) = some r := H
                  have A18 := Aside0.mk A180
                  clear A180
                  by_cases c19 : a0.size + a1.size ≤ 9223372036854775807
                  · rw [if_pos c19] at H
                    have c19b0 := eq_true c19
                    have c19b1 : decide (a0.size + a1.size ≤ 9223372036854775807) = true := decide_eq_true c19
                    try have c19b2 : (9223372036854775807 < a0.size + a1.size) = False := eq_false (Nat.not_lt.2 c19)
                    clear c19
                    replace H := Option.bind_eq_some_iff.mp H
                    obtain ⟨⟨t204, t205⟩, A200, H⟩ := H
                    replace H : (if t201 = true then (if t203 = true then (if t205 = true then (if t200.size + t202.size ≤ 9223372036854775807 then (some (t204.toList == (t200 ++ t202).toList)) else (none)) else (some false)) else (some false)) else (some false)) = some r := H
                    have A20 := Aside0.mk A200
                    clear A200
                    by_cases c21 : t201 = true
                    · subst c21
                      have H1 : (if t203 = true then (if t205 = true then (if t200.size + t202.size ≤ 9223372036854775807 then (some (t204.toList == (t200 ++ t202).toList)) else (none)) else (some false)) else (some false)) = some r := by rw [if_pos rfl] at H; exact H
                      clear H
                      have H := H1
                      clear H1
                      by_cases c22 : t203 = true
                      · subst c22
                        have H1 : (if t205 = true then (if t200.size + t202.size ≤ 9223372036854775807 then (some (t204.toList == (t200 ++ t202).toList)) else (none)) else (some false)) = some r := by rw [if_pos rfl] at H; exact H
                        clear H
                        have H := H1
                        clear H1
                        by_cases c23 : t205 = true
                        · subst c23
                          have H1 : (if t200.size + t202.size ≤ 9223372036854775807 then (some (t204.toList == (t200 ++ t202).toList)) else (none)) = some r := by rw [if_pos rfl] at H; exact H
                          clear H
                          have H := H1
                          clear H1
                          by_cases c24 : t200.size + t202.size ≤ 9223372036854775807
                          · rw [if_pos c24] at H
                            have c24b0 := eq_true c24
                            have c24b1 : decide (t200.size + t202.size ≤ 9223372036854775807) = true := decide_eq_true c24
                            try have c24b2 : (9223372036854775807 < t200.size + t202.size) = False := eq_false (Nat.not_lt.2 c24)
                            clear c24
                            obtain rfl := Option.some.inj H
                            go_wp2_with (first | ((with_reducible refine gate_callee (f := 24) rfl ?_); refine goesL_ (some 43) rfl rfl Tryd.func24 (by kernel_rfl) rfl #[.string a0] rfl (by (try simp only [List.map_toArray, List.map_cons, List.map_nil]); first | done | rfl | (simp only [List.length_drop, List.length_take]; rfl)) ?_; (with_reducible refine (spec_Unescape.calls kj5 a0 t196 true _ A13.out).mono ?_); rintro e w25 ⟨rfl, hb⟩; refine ⟨_, rfl, ?_⟩; have n0_ := Aside0.mk (below_step (by repeat (first | (with_reducible first | exact HB.out | apply below_alloc | apply pw_below_drewN | apply below_drew1) | exact HB.out)) hb); clear HB; have HB := n0_; clear n0_; (try clear hb); (try clear hb2); (try clear hk); (try clear hi)) | ((with_reducible refine gate_callee (f := 24) rfl ?_); refine goesL_ (some 50) rfl rfl Tryd.func24 (by kernel_rfl) rfl #[.string a1] rfl (by (try simp only [List.map_toArray, List.map_cons, List.map_nil]); first | done | rfl | (simp only [List.length_drop, List.length_take]; rfl)) ?_; (with_reducible refine (spec_Unescape.calls kj5 a1 t198 true _ A15.out).mono ?_); rintro e w26 ⟨rfl, hb⟩; refine ⟨_, rfl, ?_⟩; have n0_ := Aside0.mk (below_step (by repeat (first | (with_reducible first | exact HB.out | apply below_alloc | apply pw_below_drewN | apply below_drew1) | exact HB.out)) hb); clear HB; have HB := n0_; clear n0_; (try clear hb); (try clear hb2); (try clear hk); (try clear hi)) | ((with_reducible refine gate_callee (f := 25) rfl ?_); refine goesL_ (some 59) rfl rfl Tryd.func25 (by kernel_rfl) rfl #[.string a0, .int .i64 (a0.size : Int)] rfl (by (try simp only [List.map_toArray, List.map_cons, List.map_nil]); first | done | rfl | (simp only [List.length_drop, List.length_take]; rfl)) ?_; (with_reducible refine (impl_JpUnescape.calls kj5 a0 (a0.size : Int) t200 true _ ?side1 ?side2 A17.out).mono ?_); (case side1 => repeat (first | exact Kd.C_below HRG0.out (by repeat (first | (with_reducible first | exact HB.out | apply below_alloc | apply pw_below_drewN | apply below_drew1) | exact HB.out)) | exact HRG0.out | (with_reducible refine Kd.C_alloc ?_ _) | (with_reducible refine Kd.C_drewN ?_ _) | (with_reducible refine Kd.C_drew ?_))); (case side2 => repeat (first | exact Kd.C_below HRG2.out (by repeat (first | (with_reducible first | exact HB.out | apply below_alloc | apply pw_below_drewN | apply below_drew1) | exact HB.out)) | exact HRG2.out | (with_reducible refine Kd.C_alloc ?_ _) | (with_reducible refine Kd.C_drewN ?_ _) | (with_reducible refine Kd.C_drew ?_))); rintro e w27 ⟨rfl, hb⟩; refine ⟨_, rfl, ?_⟩; have n0_ := Aside0.mk (below_step (by repeat (first | (with_reducible first | exact HB.out | apply below_alloc | apply pw_below_drewN | apply below_drew1) | exact HB.out)) hb); clear HB; have HB := n0_; clear n0_; (try clear hb); (try clear hb2); (try clear hk); (try clear hi)) | ((with_reducible refine gate_callee (f := 25) rfl ?_); refine goesL_ (some 66) rfl rfl Tryd.func25 (by kernel_rfl) rfl #[.string a1, .int .i64 (a1.size : Int)] rfl (by (try simp only [List.map_toArray, List.map_cons, List.map_nil]); first | done | rfl | (simp only [List.length_drop, List.length_take]; rfl)) ?_; (with_reducible refine (impl_JpUnescape.calls kj5 a1 (a1.size : Int) t202 true _ ?side1 ?side2 A18.out).mono ?_); (case side1 => repeat (first | exact Kd.C_below HRG0.out (by repeat (first | (with_reducible first | exact HB.out | apply below_alloc | apply pw_below_drewN | apply below_drew1) | exact HB.out)) | exact HRG0.out | (with_reducible refine Kd.C_alloc ?_ _) | (with_reducible refine Kd.C_drewN ?_ _) | (with_reducible refine Kd.C_drew ?_))); (case side2 => repeat (first | exact Kd.C_below HRG2.out (by repeat (first | (with_reducible first | exact HB.out | apply below_alloc | apply pw_below_drewN | apply below_drew1) | exact HB.out)) | exact HRG2.out | (with_reducible refine Kd.C_alloc ?_ _) | (with_reducible refine Kd.C_drewN ?_ _) | (with_reducible refine Kd.C_drew ?_))); rintro e w28 ⟨rfl, hb⟩; refine ⟨_, rfl, ?_⟩; have n0_ := Aside0.mk (below_step (by repeat (first | (with_reducible first | exact HB.out | apply below_alloc | apply pw_below_drewN | apply below_drew1) | exact HB.out)) hb); clear HB; have HB := n0_; clear n0_; (try clear hb); (try clear hb2); (try clear hk); (try clear hi)) | ((with_reducible refine gate_callee (f := 25) rfl ?_); refine goesL_ (some 78) rfl rfl Tryd.func25 (by kernel_rfl) rfl #[.string (a0 ++ a1), .int .i64 (wrap64 ((a0.size : Int) + (a1.size : Int)))] rfl (by (try simp only [List.map_toArray, List.map_cons, List.map_nil]); first | done | rfl | (simp only [List.length_drop, List.length_take]; rfl)) ?_; (with_reducible refine (impl_JpUnescape.calls kj5 (a0 ++ a1) (wrap64 ((a0.size : Int) + (a1.size : Int))) t204 true _ ?side1 ?side2 A20.out).mono ?_); (case side1 => repeat (first | exact Kd.C_below HRG0.out (by repeat (first | (with_reducible first | exact HB.out | apply below_alloc | apply pw_below_drewN | apply below_drew1) | exact HB.out)) | exact HRG0.out | (with_reducible refine Kd.C_alloc ?_ _) | (with_reducible refine Kd.C_drewN ?_ _) | (with_reducible refine Kd.C_drew ?_))); (case side2 => repeat (first | exact Kd.C_below HRG2.out (by repeat (first | (with_reducible first | exact HB.out | apply below_alloc | apply pw_below_drewN | apply below_drew1) | exact HB.out)) | exact HRG2.out | (with_reducible refine Kd.C_alloc ?_ _) | (with_reducible refine Kd.C_drewN ?_ _) | (with_reducible refine Kd.C_drew ?_))); rintro e w29 ⟨rfl, hb⟩; refine ⟨_, rfl, ?_⟩; have n0_ := Aside0.mk (below_step (by repeat (first | (with_reducible first | exact HB.out | apply below_alloc | apply pw_below_drewN | apply below_drew1) | exact HB.out)) hb); clear HB; have HB := n0_; clear n0_; (try clear hb); (try clear hb2); (try clear hk); (try clear hi)))
                            go_ret
                            exact ⟨by first | rfl | (simp [errW_none, errW_some] <;> rfl) | (simp [*, errW_none, errW_some] <;> rfl), by repeat (first | (with_reducible first | exact HB.out | apply below_alloc | apply pw_below_drewN | apply below_drew1) | exact HB.out)⟩
                          · rw [if_neg c24] at H
                            exact absurd H (by simp)
                        · replace c23 := Bool.eq_false_iff.mpr c23
                          subst c23
                          have H1 : (some false) = some r := by rw [if_neg (show ¬ (false = true) by decide)] at H; exact H
                          clear H
                          have H := H1
                          clear H1
                          obtain rfl := Option.some.inj H
                          go_wp2_with (first | ((with_reducible refine gate_callee (f := 24) rfl ?_); refine goesL_ (some 43) rfl rfl Tryd.func24 (by kernel_rfl) rfl #[.string a0] rfl (by (try simp only [List.map_toArray, List.map_cons, List.map_nil]); first | done | rfl | (simp only [List.length_drop, List.length_take]; rfl)) ?_; (with_reducible refine (spec_Unescape.calls kj5 a0 t196 true _ A13.out).mono ?_); rintro e w30 ⟨rfl, hb⟩; refine ⟨_, rfl, ?_⟩; have n0_ := Aside0.mk (below_step (by repeat (first | (with_reducible first | exact HB.out | apply below_alloc | apply pw_below_drewN | apply below_drew1) | exact HB.out)) hb); clear HB; have HB := n0_; clear n0_; (try clear hb); (try clear hb2); (try clear hk); (try clear hi)) | ((with_reducible refine gate_callee (f := 24) rfl ?_); refine goesL_ (some 50) rfl rfl Tryd.func24 (by kernel_rfl) rfl #[.string a1] rfl (by (try simp only [List.map_toArray, List.map_cons, List.map_nil]); first | done | rfl | (simp only [List.length_drop, List.length_take]; rfl)) ?_; (with_reducible refine (spec_Unescape.calls kj5 a1 t198 true _ A15.out).mono ?_); rintro e w31 ⟨rfl, hb⟩; refine ⟨_, rfl, ?_⟩; have n0_ := Aside0.mk (below_step (by repeat (first | (with_reducible first | exact HB.out | apply below_alloc | apply pw_below_drewN | apply below_drew1) | exact HB.out)) hb); clear HB; have HB := n0_; clear n0_; (try clear hb); (try clear hb2); (try clear hk); (try clear hi)) | ((with_reducible refine gate_callee (f := 25) rfl ?_); refine goesL_ (some 59) rfl rfl Tryd.func25 (by kernel_rfl) rfl #[.string a0, .int .i64 (a0.size : Int)] rfl (by (try simp only [List.map_toArray, List.map_cons, List.map_nil]); first | done | rfl | (simp only [List.length_drop, List.length_take]; rfl)) ?_; (with_reducible refine (impl_JpUnescape.calls kj5 a0 (a0.size : Int) t200 true _ ?side1 ?side2 A17.out).mono ?_); (case side1 => repeat (first | exact Kd.C_below HRG0.out (by repeat (first | (with_reducible first | exact HB.out | apply below_alloc | apply pw_below_drewN | apply below_drew1) | exact HB.out)) | exact HRG0.out | (with_reducible refine Kd.C_alloc ?_ _) | (with_reducible refine Kd.C_drewN ?_ _) | (with_reducible refine Kd.C_drew ?_))); (case side2 => repeat (first | exact Kd.C_below HRG2.out (by repeat (first | (with_reducible first | exact HB.out | apply below_alloc | apply pw_below_drewN | apply below_drew1) | exact HB.out)) | exact HRG2.out | (with_reducible refine Kd.C_alloc ?_ _) | (with_reducible refine Kd.C_drewN ?_ _) | (with_reducible refine Kd.C_drew ?_))); rintro e w32 ⟨rfl, hb⟩; refine ⟨_, rfl, ?_⟩; have n0_ := Aside0.mk (below_step (by repeat (first | (with_reducible first | exact HB.out | apply below_alloc | apply pw_below_drewN | apply below_drew1) | exact HB.out)) hb); clear HB; have HB := n0_; clear n0_; (try clear hb); (try clear hb2); (try clear hk); (try clear hi)) | ((with_reducible refine gate_callee (f := 25) rfl ?_); refine goesL_ (some 66) rfl rfl Tryd.func25 (by kernel_rfl) rfl #[.string a1, .int .i64 (a1.size : Int)] rfl (by (try simp only [List.map_toArray, List.map_cons, List.map_nil]); first | done | rfl | (simp only [List.length_drop, List.length_take]; rfl)) ?_; (with_reducible refine (impl_JpUnescape.calls kj5 a1 (a1.size : Int) t202 true _ ?side1 ?side2 A18.out).mono ?_); (case side1 => repeat (first | exact Kd.C_below HRG0.out (by repeat (first | (with_reducible first | exact HB.out | apply below_alloc | apply pw_below_drewN | apply below_drew1) | exact HB.out)) | exact HRG0.out | (with_reducible refine Kd.C_alloc ?_ _) | (with_reducible refine Kd.C_drewN ?_ _) | (with_reducible refine Kd.C_drew ?_))); (case side2 => repeat (first | exact Kd.C_below HRG2.out (by repeat (first | (with_reducible first | exact HB.out | apply below_alloc | apply pw_below_drewN | apply below_drew1) | exact HB.out)) | exact HRG2.out | (with_reducible refine Kd.C_alloc ?_ _) | (with_reducible refine Kd.C_drewN ?_ _) | (with_reducible refine Kd.C_drew ?_))); rintro e w33 ⟨rfl, hb⟩; refine ⟨_, rfl, ?_⟩; have n0_ := Aside0.mk (below_step (by repeat (first | (with_reducible first | exact HB.out | apply below_alloc | apply pw_below_drewN | apply below_drew1) | exact HB.out)) hb); clear HB; have HB := n0_; clear n0_; (try clear hb); (try clear hb2); (try clear hk); (try clear hi)) | ((with_reducible refine gate_callee (f := 25) rfl ?_); refine goesL_ (some 78) rfl rfl Tryd.func25 (by kernel_rfl) rfl #[.string (a0 ++ a1), .int .i64 (wrap64 ((a0.size : Int) + (a1.size : Int)))] rfl (by (try simp only [List.map_toArray, List.map_cons, List.map_nil]); first | done | rfl | (simp only [List.length_drop, List.length_take]; rfl)) ?_; (with_reducible refine (impl_JpUnescape.calls kj5 (a0 ++ a1) (wrap64 ((a0.size : Int) + (a1.size : Int))) t204 false _ ?side1 ?side2 A20.out).mono ?_); (case side1 => repeat (first | exact Kd.C_below HRG0.out (by repeat (first | (with_reducible first | exact HB.out | apply below_alloc | apply pw_below_drewN | apply below_drew1) | exact HB.out)) | exact HRG0.out | (with_reducible refine Kd.C_alloc ?_ _) | (with_reducible refine Kd.C_drewN ?_ _) | (with_reducible refine Kd.C_drew ?_))); (case side2 => repeat (first | exact Kd.C_below HRG2.out (by repeat (first | (with_reducible first | exact HB.out | apply below_alloc | apply pw_below_drewN | apply below_drew1) | exact HB.out)) | exact HRG2.out | (with_reducible refine Kd.C_alloc ?_ _) | (with_reducible refine Kd.C_drewN ?_ _) | (with_reducible refine Kd.C_drew ?_))); rintro e w34 ⟨rfl, hb⟩; refine ⟨_, rfl, ?_⟩; have n0_ := Aside0.mk (below_step (by repeat (first | (with_reducible first | exact HB.out | apply below_alloc | apply pw_below_drewN | apply below_drew1) | exact HB.out)) hb); clear HB; have HB := n0_; clear n0_; (try clear hb); (try clear hb2); (try clear hk); (try clear hi)))
                          go_ret
                          exact ⟨by first | rfl | (simp [errW_none, errW_some] <;> rfl) | (simp [*, errW_none, errW_some] <;> rfl), by repeat (first | (with_reducible first | exact HB.out | apply below_alloc | apply pw_below_drewN | apply below_drew1) | exact HB.out)⟩
                      · replace c22 := Bool.eq_false_iff.mpr c22
                        subst c22
                        have H1 : (some false) = some r := by rw [if_neg (show ¬ (false = true) by decide)] at H; exact H
                        clear H
                        have H := H1
                        clear H1
                        obtain rfl := Option.some.inj H
                        go_wp2_with (first | ((with_reducible refine gate_callee (f := 24) rfl ?_); refine goesL_ (some 43) rfl rfl Tryd.func24 (by kernel_rfl) rfl #[.string a0] rfl (by (try simp only [List.map_toArray, List.map_cons, List.map_nil]); first | done | rfl | (simp only [List.length_drop, List.length_take]; rfl)) ?_; (with_reducible refine (spec_Unescape.calls kj5 a0 t196 true _ A13.out).mono ?_); rintro e w35 ⟨rfl, hb⟩; refine ⟨_, rfl, ?_⟩; have n0_ := Aside0.mk (below_step (by repeat (first | (with_reducible first | exact HB.out | apply below_alloc | apply pw_below_drewN | apply below_drew1) | exact HB.out)) hb); clear HB; have HB := n0_; clear n0_; (try clear hb); (try clear hb2); (try clear hk); (try clear hi)) | ((with_reducible refine gate_callee (f := 24) rfl ?_); refine goesL_ (some 50) rfl rfl Tryd.func24 (by kernel_rfl) rfl #[.string a1] rfl (by (try simp only [List.map_toArray, List.map_cons, List.map_nil]); first | done | rfl | (simp only [List.length_drop, List.length_take]; rfl)) ?_; (with_reducible refine (spec_Unescape.calls kj5 a1 t198 true _ A15.out).mono ?_); rintro e w36 ⟨rfl, hb⟩; refine ⟨_, rfl, ?_⟩; have n0_ := Aside0.mk (below_step (by repeat (first | (with_reducible first | exact HB.out | apply below_alloc | apply pw_below_drewN | apply below_drew1) | exact HB.out)) hb); clear HB; have HB := n0_; clear n0_; (try clear hb); (try clear hb2); (try clear hk); (try clear hi)) | ((with_reducible refine gate_callee (f := 25) rfl ?_); refine goesL_ (some 59) rfl rfl Tryd.func25 (by kernel_rfl) rfl #[.string a0, .int .i64 (a0.size : Int)] rfl (by (try simp only [List.map_toArray, List.map_cons, List.map_nil]); first | done | rfl | (simp only [List.length_drop, List.length_take]; rfl)) ?_; (with_reducible refine (impl_JpUnescape.calls kj5 a0 (a0.size : Int) t200 true _ ?side1 ?side2 A17.out).mono ?_); (case side1 => repeat (first | exact Kd.C_below HRG0.out (by repeat (first | (with_reducible first | exact HB.out | apply below_alloc | apply pw_below_drewN | apply below_drew1) | exact HB.out)) | exact HRG0.out | (with_reducible refine Kd.C_alloc ?_ _) | (with_reducible refine Kd.C_drewN ?_ _) | (with_reducible refine Kd.C_drew ?_))); (case side2 => repeat (first | exact Kd.C_below HRG2.out (by repeat (first | (with_reducible first | exact HB.out | apply below_alloc | apply pw_below_drewN | apply below_drew1) | exact HB.out)) | exact HRG2.out | (with_reducible refine Kd.C_alloc ?_ _) | (with_reducible refine Kd.C_drewN ?_ _) | (with_reducible refine Kd.C_drew ?_))); rintro e w37 ⟨rfl, hb⟩; refine ⟨_, rfl, ?_⟩; have n0_ := Aside0.mk (below_step (by repeat (first | (with_reducible first | exact HB.out | apply below_alloc | apply pw_below_drewN | apply below_drew1) | exact HB.out)) hb); clear HB; have HB := n0_; clear n0_; (try clear hb); (try clear hb2); (try clear hk); (try clear hi)) | ((with_reducible refine gate_callee (f := 25) rfl ?_); refine goesL_ (some 66) rfl rfl Tryd.func25 (by kernel_rfl) rfl #[.string a1, .int .i64 (a1.size : Int)] rfl (by (try simp only [List.map_toArray, List.map_cons, List.map_nil]); first | done | rfl | (simp only [List.length_drop, List.length_take]; rfl)) ?_; (with_reducible refine (impl_JpUnescape.calls kj5 a1 (a1.size : Int) t202 false _ ?side1 ?side2 A18.out).mono ?_); (case side1 => repeat (first | exact Kd.C_below HRG0.out (by repeat (first | (with_reducible first | exact HB.out | apply below_alloc | apply pw_below_drewN | apply below_drew1) | exact HB.out)) | exact HRG0.out | (with_reducible refine Kd.C_alloc ?_ _) | (with_reducible refine Kd.C_drewN ?_ _) | (with_reducible refine Kd.C_drew ?_))); (case side2 => repeat (first | exact Kd.C_below HRG2.out (by repeat (first | (with_reducible first | exact HB.out | apply below_alloc | apply pw_below_drewN | apply below_drew1) | exact HB.out)) | exact HRG2.out | (with_reducible refine Kd.C_alloc ?_ _) | (with_reducible refine Kd.C_drewN ?_ _) | (with_reducible refine Kd.C_drew ?_))); rintro e w38 ⟨rfl, hb⟩; refine ⟨_, rfl, ?_⟩; have n0_ := Aside0.mk (below_step (by repeat (first | (with_reducible first | exact HB.out | apply below_alloc | apply pw_below_drewN | apply below_drew1) | exact HB.out)) hb); clear HB; have HB := n0_; clear n0_; (try clear hb); (try clear hb2); (try clear hk); (try clear hi)) | ((with_reducible refine gate_callee (f := 25) rfl ?_); refine goesL_ (some 78) rfl rfl Tryd.func25 (by kernel_rfl) rfl #[.string (a0 ++ a1), .int .i64 (wrap64 ((a0.size : Int) + (a1.size : Int)))] rfl (by (try simp only [List.map_toArray, List.map_cons, List.map_nil]); first | done | rfl | (simp only [List.length_drop, List.length_take]; rfl)) ?_; (with_reducible refine (impl_JpUnescape.calls kj5 (a0 ++ a1) (wrap64 ((a0.size : Int) + (a1.size : Int))) t204 t205 _ ?side1 ?side2 A20.out).mono ?_); (case side1 => repeat (first | exact Kd.C_below HRG0.out (by repeat (first | (with_reducible first | exact HB.out | apply below_alloc | apply pw_below_drewN | apply below_drew1) | exact HB.out)) | exact HRG0.out | (with_reducible refine Kd.C_alloc ?_ _) | (with_reducible refine Kd.C_drewN ?_ _) | (with_reducible refine Kd.C_drew ?_))); (case side2 => repeat (first | exact Kd.C_below HRG2.out (by repeat (first | (with_reducible first | exact HB.out | apply below_alloc | apply pw_below_drewN | apply below_drew1) | exact HB.out)) | exact HRG2.out | (with_reducible refine Kd.C_alloc ?_ _) | (with_reducible refine Kd.C_drewN ?_ _) | (with_reducible refine Kd.C_drew ?_))); rintro e w39 ⟨rfl, hb⟩; refine ⟨_, rfl, ?_⟩; have n0_ := Aside0.mk (below_step (by repeat (first | (with_reducible first | exact HB.out | apply below_alloc | apply pw_below_drewN | apply below_drew1) | exact HB.out)) hb); clear HB; have HB := n0_; clear n0_; (try clear hb); (try clear hb2); (try clear hk); (try clear hi)))
                        go_ret
                        exact ⟨by first | rfl | (simp [errW_none, errW_some] <;> rfl) | (simp [*, errW_none, errW_some] <;> rfl), by repeat (first | (with_reducible first | exact HB.out | apply below_alloc | apply pw_below_drewN | apply below_drew1) | exact HB.out)⟩
                    · replace c21 := Bool.eq_false_iff.mpr c21
                      subst c21
                      have H1 : (some false) = some r := by rw [if_neg (show ¬ (false = true) by decide)] at H; exact H
                      clear H
                      have H := H1
                      clear H1
                      obtain rfl := Option.some.inj H
                      go_wp2_with (first | ((with_reducible refine gate_callee (f := 24) rfl ?_); refine goesL_ (some 43) rfl rfl Tryd.func24 (by kernel_rfl) rfl #[.string a0] rfl (by (try simp only [List.map_toArray, List.map_cons, List.map_nil]); first | done | rfl | (simp only [List.length_drop, List.length_take]; rfl)) ?_; (with_reducible refine (spec_Unescape.calls kj5 a0 t196 true _ A13.out).mono ?_); rintro e w40 ⟨rfl, hb⟩; refine ⟨_, rfl, ?_⟩; have n0_ := Aside0.mk (below_step (by repeat (first | (with_reducible first | exact HB.out | apply below_alloc | apply pw_below_drewN | apply below_drew1) | exact HB.out)) hb); clear HB; have HB := n0_; clear n0_; (try clear hb); (try clear hb2); (try clear hk); (try clear hi)) | ((with_reducible refine gate_callee (f := 24) rfl ?_); refine goesL_ (some 50) rfl rfl Tryd.func24 (by kernel_rfl) rfl #[.string a1] rfl (by (try simp only [List.map_toArray, List.map_cons, List.map_nil]); first | done | rfl | (simp only [List.length_drop, List.length_take]; rfl)) ?_; (with_reducible refine (spec_Unescape.calls kj5 a1 t198 true _ A15.out).mono ?_); rintro e w41 ⟨rfl, hb⟩; refine ⟨_, rfl, ?_⟩; have n0_ := Aside0.mk (below_step (by repeat (first | (with_reducible first | exact HB.out | apply below_alloc | apply pw_below_drewN | apply below_drew1) | exact HB.out)) hb); clear HB; have HB := n0_; clear n0_; (try clear hb); (try clear hb2); (try clear hk); (try clear hi)) | ((with_reducible refine gate_callee (f := 25) rfl ?_); refine goesL_ (some 59) rfl rfl Tryd.func25 (by kernel_rfl) rfl #[.string a0, .int .i64 (a0.size : Int)] rfl (by (try simp only [List.map_toArray, List.map_cons, List.map_nil]); first | done | rfl | (simp only [List.length_drop, List.length_take]; rfl)) ?_; (with_reducible refine (impl_JpUnescape.calls kj5 a0 (a0.size : Int) t200 false _ ?side1 ?side2 A17.out).mono ?_); (case side1 => repeat (first | exact Kd.C_below HRG0.out (by repeat (first | (with_reducible first | exact HB.out | apply below_alloc | apply pw_below_drewN | apply below_drew1) | exact HB.out)) | exact HRG0.out | (with_reducible refine Kd.C_alloc ?_ _) | (with_reducible refine Kd.C_drewN ?_ _) | (with_reducible refine Kd.C_drew ?_))); (case side2 => repeat (first | exact Kd.C_below HRG2.out (by repeat (first | (with_reducible first | exact HB.out | apply below_alloc | apply pw_below_drewN | apply below_drew1) | exact HB.out)) | exact HRG2.out | (with_reducible refine Kd.C_alloc ?_ _) | (with_reducible refine Kd.C_drewN ?_ _) | (with_reducible refine Kd.C_drew ?_))); rintro e w42 ⟨rfl, hb⟩; refine ⟨_, rfl, ?_⟩; have n0_ := Aside0.mk (below_step (by repeat (first | (with_reducible first | exact HB.out | apply below_alloc | apply pw_below_drewN | apply below_drew1) | exact HB.out)) hb); clear HB; have HB := n0_; clear n0_; (try clear hb); (try clear hb2); (try clear hk); (try clear hi)) | ((with_reducible refine gate_callee (f := 25) rfl ?_); refine goesL_ (some 66) rfl rfl Tryd.func25 (by kernel_rfl) rfl #[.string a1, .int .i64 (a1.size : Int)] rfl (by (try simp only [List.map_toArray, List.map_cons, List.map_nil]); first | done | rfl | (simp only [List.length_drop, List.length_take]; rfl)) ?_; (with_reducible refine (impl_JpUnescape.calls kj5 a1 (a1.size : Int) t202 t203 _ ?side1 ?side2 A18.out).mono ?_); (case side1 => repeat (first | exact Kd.C_below HRG0.out (by repeat (first | (with_reducible first | exact HB.out | apply below_alloc | apply pw_below_drewN | apply below_drew1) | exact HB.out)) | exact HRG0.out | (with_reducible refine Kd.C_alloc ?_ _) | (with_reducible refine Kd.C_drewN ?_ _) | (with_reducible refine Kd.C_drew ?_))); (case side2 => repeat (first | exact Kd.C_below HRG2.out (by repeat (first | (with_reducible first | exact HB.out | apply below_alloc | apply pw_below_drewN | apply below_drew1) | exact HB.out)) | exact HRG2.out | (with_reducible refine Kd.C_alloc ?_ _) | (with_reducible refine Kd.C_drewN ?_ _) | (with_reducible refine Kd.C_drew ?_))); rintro e w43 ⟨rfl, hb⟩; refine ⟨_, rfl, ?_⟩; have n0_ := Aside0.mk (below_step (by repeat (first | (with_reducible first | exact HB.out | apply below_alloc | apply pw_below_drewN | apply below_drew1) | exact HB.out)) hb); clear HB; have HB := n0_; clear n0_; (try clear hb); (try clear hb2); (try clear hk); (try clear hi)) | ((with_reducible refine gate_callee (f := 25) rfl ?_); refine goesL_ (some 78) rfl rfl Tryd.func25 (by kernel_rfl) rfl #[.string (a0 ++ a1), .int .i64 (wrap64 ((a0.size : Int) + (a1.size : Int)))] rfl (by (try simp only [List.map_toArray, List.map_cons, List.map_nil]); first | done | rfl | (simp only [List.length_drop, List.length_take]; rfl)) ?_; (with_reducible refine (impl_JpUnescape.calls kj5 (a0 ++ a1) (wrap64 ((a0.size : Int) + (a1.size : Int))) t204 t205 _ ?side1 ?side2 A20.out).mono ?_); (case side1 => repeat (first | exact Kd.C_below HRG0.out (by repeat (first | (with_reducible first | exact HB.out | apply below_alloc | apply pw_below_drewN | apply below_drew1) | exact HB.out)) | exact HRG0.out | (with_reducible refine Kd.C_alloc ?_ _) | (with_reducible refine Kd.C_drewN ?_ _) | (with_reducible refine Kd.C_drew ?_))); (case side2 => repeat (first | exact Kd.C_below HRG2.out (by repeat (first | (with_reducible first | exact HB.out | apply below_alloc | apply pw_below_drewN | apply below_drew1) | exact HB.out)) | exact HRG2.out | (with_reducible refine Kd.C_alloc ?_ _) | (with_reducible refine Kd.C_drewN ?_ _) | (with_reducible refine Kd.C_drew ?_))); rintro e w44 ⟨rfl, hb⟩; refine ⟨_, rfl, ?_⟩; have n0_ := Aside0.mk (below_step (by repeat (first | (with_reducible first | exact HB.out | apply below_alloc | apply pw_below_drewN | apply below_drew1) | exact HB.out)) hb); clear HB; have HB := n0_; clear n0_; (try clear hb); (try clear hb2); (try clear hk); (try clear hi)))
                      go_ret
                      exact ⟨by first | rfl | (simp [errW_none, errW_some] <;> rfl) | (simp [*, errW_none, errW_some] <;> rfl), by repeat (first | (with_reducible first | exact HB.out | apply below_alloc | apply pw_below_drewN | apply below_drew1) | exact HB.out)⟩
                  · rw [if_neg c19] at H
                    exact absurd H (by simp)
                · replace c16 := Bool.eq_false_iff.mpr c16
                  subst c16
                  have H1 : (some true) = some r := by rw [if_neg (show ¬ (false = true) by decide)] at H; exact H
                  clear H
                  have H := H1
                  clear H1
                  obtain rfl := Option.some.inj H
                  go_wp2_with (first | ((with_reducible refine gate_callee (f := 24) rfl ?_); refine goesL_ (some 43) rfl rfl Tryd.func24 (by kernel_rfl) rfl #[.string a0] rfl (by (try simp only [List.map_toArray, List.map_cons, List.map_nil]); first | done | rfl | (simp only [List.length_drop, List.length_take]; rfl)) ?_; (with_reducible refine (spec_Unescape.calls kj5 a0 t196 true _ A13.out).mono ?_); rintro e w45 ⟨rfl, hb⟩; refine ⟨_, rfl, ?_⟩; have n0_ := Aside0.mk (below_step (by repeat (first | (with_reducible first | exact HB.out | apply below_alloc | apply pw_below_drewN | apply below_drew1) | exact HB.out)) hb); clear HB; have HB := n0_; clear n0_; (try clear hb); (try clear hb2); (try clear hk); (try clear hi)) | ((with_reducible refine gate_callee (f := 24) rfl ?_); refine goesL_ (some 50) rfl rfl Tryd.func24 (by kernel_rfl) rfl #[.string a1] rfl (by (try simp only [List.map_toArray, List.map_cons, List.map_nil]); first | done | rfl | (simp only [List.length_drop, List.length_take]; rfl)) ?_; (with_reducible refine (spec_Unescape.calls kj5 a1 t198 false _ A15.out).mono ?_); rintro e w46 ⟨rfl, hb⟩; refine ⟨_, rfl, ?_⟩; have n0_ := Aside0.mk (below_step (by repeat (first | (with_reducible first | exact HB.out | apply below_alloc | apply pw_below_drewN | apply below_drew1) | exact HB.out)) hb); clear HB; have HB := n0_; clear n0_; (try clear hb); (try clear hb2); (try clear hk); (try clear hi)))
                  go_ret
                  exact ⟨by first | rfl | (simp [errW_none, errW_some] <;> rfl) | (simp [*, errW_none, errW_some] <;> rfl), by repeat (first | (with_reducible first | exact HB.out | apply below_alloc | apply pw_below_drewN | apply below_drew1) | exact HB.out)⟩
              · replace c14 := Bool.eq_false_iff.mpr c14
                subst c14
                have H1 : (some true) = some r := by rw [if_neg (show ¬ (false = true) by decide)] at H; exact H
                clear H
                have H := H1
                clear H1
                obtain rfl := Option.some.inj H
                go_wp2_with (first | ((with_reducible refine gate_callee (f := 24) rfl ?_); refine goesL_ (some 43) rfl rfl Tryd.func24 (by kernel_rfl) rfl #[.string a0] rfl (by (try simp only [List.map_toArray, List.map_cons, List.map_nil]); first | done | rfl | (simp only [List.length_drop, List.length_take]; rfl)) ?_; (with_reducible refine (spec_Unescape.calls kj5 a0 t196 false _ A13.out).mono ?_); rintro e w47 ⟨rfl, hb⟩; refine ⟨_, rfl, ?_⟩; have n0_ := Aside0.mk (below_step (by repeat (first | (with_reducible first | exact HB.out | apply below_alloc | apply pw_below_drewN | apply below_drew1) | exact HB.out)) hb); clear HB; have HB := n0_; clear n0_; (try clear hb); (try clear hb2); (try clear hk); (try clear hi)))
                go_ret
                exact ⟨by first | rfl | (simp [errW_none, errW_some] <;> rfl) | (simp [*, errW_none, errW_some] <;> rfl), by repeat (first | (with_reducible first | exact HB.out | apply below_alloc | apply pw_below_drewN | apply below_drew1) | exact HB.out)⟩

/-- THE ONE PURE STATEMENT of laws_FnJpUnescapeParts: yours. -/
def laws_FnJpUnescapeParts.Pure : Prop := ∀ (a0 : ByteArray) (a1 : ByteArray), a0.size ≤ 140737488351232 → a1.size ≤ 140737488351232 → ∃ k, laws_FnJpUnescapeParts.f k a0 a1 = some true
theorem laws_FnJpUnescapeParts.walk (P : laws_FnJpUnescapeParts.Pure) (a0 : ByteArray) (a1 : ByteArray) (w : World) (w0 : a0.size ≤ 140737488351232) (w1 : a1.size ≤ 140737488351232) (hT0 : Kd.C Kd.cfgk w (some ⟨0, 0, none⟩) tabG0.length tabG0) (hT2 : Kd.C (Kd.int .u8) w (some ⟨2, 0, none⟩) tabG2.length tabG2) :
    Calls Tryd.prog 7 #[.string a0, .string a1] w fun e w' => e = .returned (.bool true) ∧ Below w.heap.size w w' := by
  obtain ⟨k, h⟩ := P a0 a1 w0 w1
  refine (laws_FnJpUnescapeParts.calls k a0 a1 true w hT0 hT2 h).mono ?_
  rintro e w' ⟨rfl, hd⟩
  exact ⟨rfl, hd⟩

end Go.Proofs.YtfpbbnllaogclaaDoor.PJ
