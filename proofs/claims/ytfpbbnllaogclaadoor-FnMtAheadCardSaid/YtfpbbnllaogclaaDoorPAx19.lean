-- Written by a program of this session out of the translation (a changed copy of the kit's print); Lean checks it.
import Derived.Test.YtfpbbnllaogclaaDoorPAx0
import Derived.Test.YtfpbbnllaogclaaDoorPAx1
import Derived.Test.YtfpbbnllaogclaaDoorPAx3
import Derived.Test.YtfpbbnllaogclaaDoorPAx7
import Derived.Test.YtfpbbnllaogclaaDoorPAx17
import Derived.Test.YtfpbbnllaogclaaDoorPAx18
namespace Go.Proofs.YtfpbbnllaogclaaDoor.PA
open Go.RowKit Go.Proofs.YtfpbbnllaogclaaDoorW.PrintWords Go.Proofs.YtfpbbnllaogclaaDoorW.PrintLast Go.Proofs.YtfpbbnllaogclaaDoorW.PrintMore
attribute [local go_sem] max2_int min2_int max_two min_two max_three min_three max_four min_four   -- for this text's walks alone
set_option linter.unusedVariables false
set_option linter.unusedSimpArgs false

/-! ### laws_FnMtAhead: function 3 -/
mutual
def laws_FnMtAhead.j0 : Nat → ByteArray → ByteArray → Bool → Option (Bool)
  | 0, _, _, _ => none
  | k + 1, x0, x1, x12 => if x12 = true then (some true) else (if (x0.size : Int) > 4096 then (laws_FnMtAhead.j1 k x0 x1 true) else (if (x1.size : Int) > 4096 then (laws_FnMtAhead.j1 k x0 x1 true) else ((spec_UTF8.f k x0).bind fun t154 => (if t154 = true then ((spec_UTF8.f k x1).bind fun t155 => (laws_FnMtAhead.j1 k x0 x1 (!t155))) else (laws_FnMtAhead.j1 k x0 x1 true)))))
def laws_FnMtAhead.j1 : Nat → ByteArray → ByteArray → Bool → Option (Bool)
  | 0, _, _, _ => none
  | k + 1, x0, x1, x30 => if x30 = true then (some true) else ((laws_mtGuard.f k x1).bind fun t156 => (if t156.size + 1 ≤ 9223372036854775807 then ((impl_MtMatch.f k x0 (t156 ++ (⟨#[42]⟩ : ByteArray))).bind fun t157 => (if (x0.size : Int) ≥ (x1.size : Int) then (if 0 ≤ (x1.size : Int) then (if (x1.size : Int) ≤ (x0.size : Int) then (some (t157 == ((x0.extract 0 ((x1.size : Int) : Int).toNat).toList == x1.toList))) else (none)) else (none)) else (some (t157 == false)))) else (none)))
end
def laws_FnMtAhead.f (k : Nat) (a0 : ByteArray) (a1 : ByteArray) : Option (Bool) := if (a0.size : Int) > 2147483647 then (laws_FnMtAhead.j0 k a0 a1 true) else (laws_FnMtAhead.j0 k a0 a1 (decide ((a1.size : Int) > 2147483647)))
theorem laws_FnMtAhead.mono_l : ∀ k, (∀ y0 y1 y2, LeO (laws_FnMtAhead.j0 k y0 y1 y2) (laws_FnMtAhead.j0 (k + 1) y0 y1 y2)) ∧ (∀ y0 y1 y2, LeO (laws_FnMtAhead.j1 k y0 y1 y2) (laws_FnMtAhead.j1 (k + 1) y0 y1 y2))
  | 0 => ⟨fun _ _ _ r h => by simp [laws_FnMtAhead.j0] at h, fun _ _ _ r h => by simp [laws_FnMtAhead.j1] at h⟩
  | k + 1 => by
    obtain ⟨ih0, ih1⟩ := laws_FnMtAhead.mono_l k
    refine ⟨?_, ?_⟩
    · intro y0 y1 y2
      unfold laws_FnMtAhead.j0
      repeat' first
      | (with_reducible exact ih0 _ _ _)
      | (with_reducible exact ih1 _ _ _)
      | (with_reducible exact impl_MtMatch.mono _ _ _)
      | (with_reducible exact laws_mtGuard.mono _ _)
      | (with_reducible exact spec_UTF8.mono _ _)
      | (with_reducible exact LeO.refl _)
      | (with_reducible exact LeO.none _)
      | (with_reducible refine LeO.ite ?_ ?_)
      | (with_reducible refine LeO.bind ?_ (fun _ => ?_))
      | exact ih0 _ _ _
      | exact ih1 _ _ _
      | exact impl_MtMatch.mono _ _ _
      | exact laws_mtGuard.mono _ _
      | exact spec_UTF8.mono _ _
      | exact LeO.none _
      | refine LeO.ite ?_ ?_
      | refine LeO.bind ?_ (fun _ => ?_)
    · intro y0 y1 y2
      unfold laws_FnMtAhead.j1
      repeat' first
      | (with_reducible exact ih0 _ _ _)
      | (with_reducible exact ih1 _ _ _)
      | (with_reducible exact impl_MtMatch.mono _ _ _)
      | (with_reducible exact laws_mtGuard.mono _ _)
      | (with_reducible exact spec_UTF8.mono _ _)
      | (with_reducible exact LeO.refl _)
      | (with_reducible exact LeO.none _)
      | (with_reducible refine LeO.ite ?_ ?_)
      | (with_reducible refine LeO.bind ?_ (fun _ => ?_))
      | exact ih0 _ _ _
      | exact ih1 _ _ _
      | exact impl_MtMatch.mono _ _ _
      | exact laws_mtGuard.mono _ _
      | exact spec_UTF8.mono _ _
      | exact LeO.none _
      | refine LeO.ite ?_ ?_
      | refine LeO.bind ?_ (fun _ => ?_)
theorem laws_FnMtAhead.mono : ∀ a0 a1 k, LeO (laws_FnMtAhead.f k a0 a1) (laws_FnMtAhead.f (k + 1) a0 a1) := by
  intro a0 a1 k
  obtain ⟨ih0, ih1⟩ := laws_FnMtAhead.mono_l k
  unfold laws_FnMtAhead.f
  repeat' first
      | (with_reducible exact ih0 _ _ _)
      | (with_reducible exact ih1 _ _ _)
      | (with_reducible exact impl_MtMatch.mono _ _ _)
      | (with_reducible exact laws_mtGuard.mono _ _)
      | (with_reducible exact spec_UTF8.mono _ _)
      | (with_reducible exact LeO.refl _)
      | (with_reducible exact LeO.none _)
      | (with_reducible refine LeO.ite ?_ ?_)
      | (with_reducible refine LeO.bind ?_ (fun _ => ?_))
      | exact ih0 _ _ _
      | exact ih1 _ _ _
      | exact impl_MtMatch.mono _ _ _
      | exact laws_mtGuard.mono _ _
      | exact spec_UTF8.mono _ _
      | exact LeO.none _
      | refine LeO.ite ?_ ?_
      | refine LeO.bind ?_ (fun _ => ?_)
set_option maxHeartbeats 8000000 in
set_option maxRecDepth 100000 in
theorem laws_FnMtAhead.calls (k : Nat) (a0 : ByteArray) (a1 : ByteArray) (r : Bool) (w : World) (hT4 : Kd.C (Kd.int .u8) w (some ⟨4, 0, none⟩) tabG4.length tabG4) (hT5 : Kd.C k159 w (some ⟨5, 0, none⟩) tabG5.length tabG5) (h : laws_FnMtAhead.f k a0 a1 = some r) :
    Calls Tryd.prog 3 #[.string a0, .string a1] w fun e w' => e = .returned (.bool r) ∧ Below w.heap.size w w' := by
  have HRG4 := Aside0.mk hT4
  clear hT4
  have HRG5 := Aside0.mk hT5
  clear hT5
  have HB := Aside0.mk (Below.refl w.heap.size w)
  have H : (if (a0.size : Int) > 2147483647 then (laws_FnMtAhead.j0 k a0 a1 true) else (laws_FnMtAhead.j0 k a0 a1 (decide ((a1.size : Int) > 2147483647)))) = some r := h
  clear h
  have HC3 := Aside0.mk H
  clear H
  go_enter Tryd.func3, Tryd.ntmps3
  go_upto_region 1 with (fail)
  go_cut [12] (fun v12 wc => ∃ (kq : Nat) (x12_2 : Bool), v12 = .bool x12_2 ∧ Aside0 (laws_FnMtAhead.j0 kq a0 a1 x12_2 = some r) ∧ Aside0 (kq ≤ k) ∧ Aside0 (Below w.heap.size w wc))
  case first =>
    have H := HC3.out
    clear HC3
    by_cases c4 : (a0.size : Int) > 2147483647
    · rw [if_pos c4] at H
      have c4b0 : decide (2147483647 < (a0.size : Int)) = true := decide_eq_true c4
      have c4b1 : decide (2147483647 < a0.size) = true := decide_eq_true (by omega)
      clear c4
      (first | rw [c4b0] | (simp only [i64_w, i32_w]; rw [c4b0]) | rw [c4b1] | skip)
      as_aux_lemma =>
        have H' := Aside0.mk H
        clear H
        go_wp2
        go_meet
        case rel => exact ⟨_, (true), (by first | rfl | (simp; done) | (simp [*]; done)), H', ⟨by first | omega | exact Nat.le_refl _⟩, ⟨by repeat (first | (with_reducible first | exact HB.out | apply below_alloc | apply pw_below_drewN | apply below_drew1) | exact HB.out)⟩⟩
    · rw [if_neg c4] at H
      have c4b0 : decide (2147483647 < (a0.size : Int)) = false := decide_eq_false c4
      have c4b1 : decide (2147483647 < a0.size) = false := decide_eq_false (by omega)
      clear c4
      (first | rw [c4b0] | (simp only [i64_w, i32_w]; rw [c4b0]) | rw [c4b1] | skip)
      as_aux_lemma =>
        have H' := Aside0.mk H
        clear H
        go_wp2
        go_meet
        case rel => exact ⟨_, (decide ((a1.size : Int) > 2147483647)), (by first | rfl | (simp; done) | (simp [*]; done)), H', ⟨by first | omega | exact Nat.le_refl _⟩, ⟨by repeat (first | (with_reducible first | exact HB.out | apply below_alloc | apply pw_below_drewN | apply below_drew1) | exact HB.out)⟩⟩
  case rest =>
    clear HC3
    try clear p2
    try clear c3
    try clear c4
    try clear c4b0
    try clear c4b1
    obtain ⟨kq, x12_2, rfl, HA, HJ2, HB⟩ := hcut
    cases kq with
    | zero => exact absurd HA.out (by simp [laws_FnMtAhead.j0])
    | succ kj2 =>
      have H := HA.out
      clear HA
      simp only [laws_FnMtAhead.j0] at H
      by_cases c5 : x12_2 = true
      · subst c5
        have H1 : (some true) = some r := by rw [if_pos rfl] at H; exact H
        clear H
        have H := H1
        clear H1
        as_aux_lemma =>
          obtain rfl := Option.some.inj H
          go_wp2
          go_ret
          exact ⟨by first | rfl | (simp [errW_none, errW_some] <;> rfl) | (simp [*, errW_none, errW_some] <;> rfl), by repeat (first | (with_reducible first | exact HB.out | apply below_alloc | apply pw_below_drewN | apply below_drew1) | exact HB.out)⟩
      · replace c5 := Bool.eq_false_iff.mpr c5
        subst c5
        have H1 : (if (a0.size : Int) > 4096 then (laws_FnMtAhead.j1 kj2 a0 a1 true) else (if (a1.size : Int) > 4096 then (laws_FnMtAhead.j1 kj2 a0 a1 true) else ((spec_UTF8.f kj2 a0).bind fun t154 => (if t154 = true then ((spec_UTF8.f kj2 a1).bind fun t155 => (laws_FnMtAhead.j1 kj2 a0 a1 (!t155))) else (laws_FnMtAhead.j1 kj2 a0 a1 true))))) = some r := by rw [if_neg (show ¬ (false = true) by decide)] at H; exact H
        clear H
        have H := H1
        clear H1
        have HC6 := Aside0.mk H
        clear H
        go_upto_region 3 with (fail)
        go_cut [30] (fun v30 wc => ∃ (kq : Nat) (x30_5 : Bool), v30 = .bool x30_5 ∧ Aside0 (laws_FnMtAhead.j1 kq a0 a1 x30_5 = some r) ∧ Aside0 (kq ≤ kj2) ∧ Aside0 (Below w.heap.size w wc))
        case first =>
          have H := HC6.out
          clear HC6
          by_cases c7 : (a0.size : Int) > 4096
          · rw [if_pos c7] at H
            have c7b0 : decide (4096 < (a0.size : Int)) = true := decide_eq_true c7
            have c7b1 : decide (4096 < a0.size) = true := decide_eq_true (by omega)
            clear c7
            (first | rw [c7b0] | (simp only [i64_w, i32_w]; rw [c7b0]) | rw [c7b1] | skip)
            as_aux_lemma =>
              have H' := Aside0.mk H
              clear H
              go_wp2
              go_meet
              case rel => exact ⟨_, (true), (by first | rfl | (simp; done) | (simp [*]; done)), H', ⟨by have := HJ2.out; first | omega | exact Nat.le_refl _⟩, ⟨by repeat (first | (with_reducible first | exact HB.out | apply below_alloc | apply pw_below_drewN | apply below_drew1) | exact HB.out)⟩⟩
          · rw [if_neg c7] at H
            have c7b0 : decide (4096 < (a0.size : Int)) = false := decide_eq_false c7
            have c7b1 : decide (4096 < a0.size) = false := decide_eq_false (by omega)
            clear c7
            (first | rw [c7b0] | (simp only [i64_w, i32_w]; rw [c7b0]) | rw [c7b1] | skip)
            by_cases c8 : (a1.size : Int) > 4096
            · rw [if_pos c8] at H
              have c8b0 : decide (4096 < (a1.size : Int)) = true := decide_eq_true c8
              have c8b1 : decide (4096 < a1.size) = true := decide_eq_true (by omega)
              clear c8
              as_aux_lemma =>
                have H' := Aside0.mk H
                clear H
                go_wp2
                go_meet
                case rel => exact ⟨_, (true), (by first | rfl | (simp; done) | (simp [*]; done)), H', ⟨by have := HJ2.out; first | omega | exact Nat.le_refl _⟩, ⟨by repeat (first | (with_reducible first | exact HB.out | apply below_alloc | apply pw_below_drewN | apply below_drew1) | exact HB.out)⟩⟩
            · rw [if_neg c8] at H
              have c8b0 : decide (4096 < (a1.size : Int)) = false := decide_eq_false c8
              have c8b1 : decide (4096 < a1.size) = false := decide_eq_false (by omega)
              clear c8
              replace H := Option.bind_eq_some_iff.mp H
              obtain ⟨t154, A90, H⟩ := H
              replace H : (if t154 = true then ((spec_UTF8.f kj2 a1).bind fun t155 => (laws_FnMtAhead.j1 kj2 a0 a1 (!t155))) else (laws_FnMtAhead.j1 kj2 a0 a1 true)) = some r := H
              have A9 := Aside0.mk A90
              clear A90
              by_cases c10 : t154 = true
              · subst c10
                have H1 : ((spec_UTF8.f kj2 a1).bind fun t155 => (laws_FnMtAhead.j1 kj2 a0 a1 (!t155))) = some r := by rw [if_pos rfl] at H; exact H
                clear H
                have H := H1
                clear H1
                replace H := Option.bind_eq_some_iff.mp H
                obtain ⟨t155, A110, H⟩ := H
                replace H : (laws_FnMtAhead.j1 kj2 a0 a1 (!t155)) = some r := H
                have A11 := Aside0.mk A110
                clear A110
                as_aux_lemma =>
                  have H' := Aside0.mk H
                  clear H
                  go_wp2_with (first | (go_at_call 9; (with_reducible refine (spec_UTF8.calls kj2 a0 true _ A9.out).mono ?_); rintro e w' ⟨rfl, ⟨nd, rfl⟩⟩) | (go_at_call 9; (with_reducible refine (spec_UTF8.calls kj2 a1 t155 _ A11.out).mono ?_); rintro e w' ⟨rfl, ⟨nd, rfl⟩⟩))
                  go_meet
                  case rel => exact ⟨_, (!t155), (by first | rfl | (simp; done) | (simp [*]; done)), H', ⟨by have := HJ2.out; first | omega | exact Nat.le_refl _⟩, ⟨by repeat (first | (with_reducible first | exact HB.out | apply below_alloc | apply pw_below_drewN | apply below_drew1) | exact HB.out)⟩⟩
              · replace c10 := Bool.eq_false_iff.mpr c10
                subst c10
                have H1 : (laws_FnMtAhead.j1 kj2 a0 a1 true) = some r := by rw [if_neg (show ¬ (false = true) by decide)] at H; exact H
                clear H
                have H := H1
                clear H1
                as_aux_lemma =>
                  have H' := Aside0.mk H
                  clear H
                  go_wp2_with (first | (go_at_call 9; (with_reducible refine (spec_UTF8.calls kj2 a0 false _ A9.out).mono ?_); rintro e w' ⟨rfl, ⟨nd, rfl⟩⟩))
                  go_meet
                  case rel => exact ⟨_, (true), (by first | rfl | (simp; done) | (simp [*]; done)), H', ⟨by have := HJ2.out; first | omega | exact Nat.le_refl _⟩, ⟨by repeat (first | (with_reducible first | exact HB.out | apply below_alloc | apply pw_below_drewN | apply below_drew1) | exact HB.out)⟩⟩
        case rest =>
          clear HC6
          try clear c1
          try clear p2
          try clear c3
          try clear c4
          try clear c4b0
          try clear c4b1
          try clear c5
          try clear c7
          try clear c7b0
          try clear c7b1
          try clear c8
          try clear c8b0
          try clear c8b1
          try clear c10
          try clear p2
          obtain ⟨kq, x30_5, rfl, HA, HJ5, HB⟩ := hcut
          cases kq with
          | zero => exact absurd HA.out (by simp [laws_FnMtAhead.j1])
          | succ kj5 =>
            have H := HA.out
            clear HA
            simp only [laws_FnMtAhead.j1] at H
            by_cases c12 : x30_5 = true
            · subst c12
              have H1 : (some true) = some r := by rw [if_pos rfl] at H; exact H
              clear H
              have H := H1
              clear H1
              as_aux_lemma =>
                obtain rfl := Option.some.inj H
                go_wp2
                go_ret
                exact ⟨by first | rfl | (simp [errW_none, errW_some] <;> rfl) | (simp [*, errW_none, errW_some] <;> rfl), by repeat (first | (with_reducible first | exact HB.out | apply below_alloc | apply pw_below_drewN | apply below_drew1) | exact HB.out)⟩
            · replace c12 := Bool.eq_false_iff.mpr c12
              subst c12
              have H1 : ((laws_mtGuard.f kj5 a1).bind fun t156 => (if t156.size + 1 ≤ 9223372036854775807 then ((impl_MtMatch.f kj5 a0 (t156 ++ (⟨#[42]⟩ : ByteArray))).bind fun t157 => (if (a0.size : Int) ≥ (a1.size : Int) then (if 0 ≤ (a1.size : Int) then (if (a1.size : Int) ≤ (a0.size : Int) then (some (t157 == ((a0.extract 0 ((a1.size : Int) : Int).toNat).toList == a1.toList))) else (none)) else (none)) else (some (t157 == false)))) else (none))) = some r := by rw [if_neg (show ¬ (false = true) by decide)] at H; exact H
              clear H
              have H := H1
              clear H1
              replace H := Option.bind_eq_some_iff.mp H
              obtain ⟨t156, A130, H⟩ := H
              replace H : (if t156.size + 1 ≤ 9223372036854775807 then ((impl_MtMatch.f kj5 a0 (t156 ++ (⟨#[42]⟩ : ByteArray))).bind fun t157 => (if (a0.size : Int) ≥ (a1.size : Int) then (if 0 ≤ (a1.size : Int) then (if (a1.size : Int) ≤ (a0.size : Int) then (some (t157 == ((a0.extract 0 ((a1.size : Int) : Int).toNat).toList == a1.toList))) else (none)) else (none)) else (some (t157 == false)))) else (none)) = some r := H
              have A13 := Aside0.mk A130
              clear A130
              by_cases c14 : t156.size + 1 ≤ 9223372036854775807
              · rw [if_pos c14] at H
                have c14b0 := eq_true c14
                have c14b1 : decide (t156.size + 1 ≤ 9223372036854775807) = true := decide_eq_true c14
                try have c14b2 : (9223372036854775807 < t156.size + 1) = False := eq_false (Nat.not_lt.2 c14)
                clear c14
                replace H := Option.bind_eq_some_iff.mp H
                obtain ⟨t157, A150, H⟩ := H
                replace H : (if (a0.size : Int) ≥ (a1.size : Int) then (if 0 ≤ (a1.size : Int) then (if (a1.size : Int) ≤ (a0.size : Int) then (some (t157 == ((a0.extract 0 ((a1.size : Int) : Int).toNat).toList == a1.toList))) else (none)) else (none)) else (some (t157 == false))) = some r := H
                have A15 := Aside0.mk A150
                clear A150
                by_cases c16 : (a0.size : Int) ≥ (a1.size : Int)
                · rw [if_pos c16] at H
                  have c16b0 : decide ((a1.size : Int) ≤ (a0.size : Int)) = true := decide_eq_true c16
                  have c16b1 : decide (a1.size ≤ a0.size) = true := decide_eq_true (Int.ofNat_le.mp c16)
                  clear c16
                  by_cases c17 : 0 ≤ (a1.size : Int)
                  · rw [if_pos c17] at H
                    have c17b0 := eq_true c17
                    have c17b1 : decide (0 ≤ (a1.size : Int)) = true := decide_eq_true c17
                    clear c17
                    by_cases c18 : (a1.size : Int) ≤ (a0.size : Int)
                    · rw [if_pos c18] at H
                      have c18b0 := eq_true c18
                      have c18b1 : decide ((a1.size : Int) ≤ (a0.size : Int)) = true := decide_eq_true c18
                      clear c18
                      as_aux_lemma =>
                        obtain rfl := Option.some.inj H
                        go_wp2_with (first | ((with_reducible refine gate_callee (f := 11) rfl ?_); refine goesL_ (some 33) rfl rfl Tryd.func11 (by kernel_rfl) rfl #[.string a1] rfl (by (try simp only [List.map_toArray, List.map_cons, List.map_nil]); first | done | rfl | (simp only [List.length_drop, List.length_take]; rfl)) ?_; (with_reducible refine (laws_mtGuard.calls kj5 a1 t156 _ A13.out).mono ?_); rintro e w19 ⟨rfl, hb⟩; refine ⟨_, rfl, ?_⟩; have n0_ := Aside0.mk (below_step (by repeat (first | (with_reducible first | exact HB.out | apply below_alloc | apply pw_below_drewN | apply below_drew1) | exact HB.out)) hb); clear HB; have HB := n0_; clear n0_; (try clear hb); (try clear hb2); (try clear hk); (try clear hi)) | ((with_reducible refine gate_callee (f := 10) rfl ?_); refine goesL_ (some 35) rfl rfl Tryd.func10 (by kernel_rfl) rfl #[.string a0, .string (t156 ++ (⟨#[42]⟩ : ByteArray))] rfl (by (try simp only [List.map_toArray, List.map_cons, List.map_nil]); first | done | rfl | (simp only [List.length_drop, List.length_take]; rfl)) ?_; (with_reducible refine (impl_MtMatch.calls kj5 a0 (t156 ++ (⟨#[42]⟩ : ByteArray)) t157 _ ?side1 ?side2 A15.out).mono ?_); (case side1 => repeat (first | exact Kd.C_below HRG4.out (by repeat (first | (with_reducible first | exact HB.out | apply below_alloc | apply pw_below_drewN | apply below_drew1) | exact HB.out)) | exact HRG4.out | (with_reducible refine Kd.C_alloc ?_ _) | (with_reducible refine Kd.C_drewN ?_ _) | (with_reducible refine Kd.C_drew ?_))); (case side2 => repeat (first | exact Kd.C_below HRG5.out (by repeat (first | (with_reducible first | exact HB.out | apply below_alloc | apply pw_below_drewN | apply below_drew1) | exact HB.out)) | exact HRG5.out | (with_reducible refine Kd.C_alloc ?_ _) | (with_reducible refine Kd.C_drewN ?_ _) | (with_reducible refine Kd.C_drew ?_))); rintro e w20 ⟨rfl, hb⟩; refine ⟨_, rfl, ?_⟩; have n0_ := Aside0.mk (below_step (by repeat (first | (with_reducible first | exact HB.out | apply below_alloc | apply pw_below_drewN | apply below_drew1) | exact HB.out)) hb); clear HB; have HB := n0_; clear n0_; (try clear hb); (try clear hb2); (try clear hk); (try clear hi); try have hcs21 := fun W_ : World => run_slice_string_h (P := Tryd.prog) W_ 9 a0 Tryd.underlying9 .i64 (a1.size : Int) (of_decide_eq_true (by first | (with_reducible assumption) | assumption)) (of_decide_eq_true (by first | (with_reducible assumption) | assumption))))
                        go_ret
                        exact ⟨by first | rfl | (simp [errW_none, errW_some] <;> rfl) | (simp [*, errW_none, errW_some] <;> rfl), by repeat (first | (with_reducible first | exact HB.out | apply below_alloc | apply pw_below_drewN | apply below_drew1) | exact HB.out)⟩
                    · rw [if_neg c18] at H
                      exact absurd H (by simp)
                  · rw [if_neg c17] at H
                    exact absurd H (by simp)
                · rw [if_neg c16] at H
                  have c16b0 : decide ((a1.size : Int) ≤ (a0.size : Int)) = false := decide_eq_false c16
                  have c16b1 : decide (a1.size ≤ a0.size) = false := decide_eq_false (fun h => c16 (Int.ofNat_le.mpr h))
                  clear c16
                  as_aux_lemma =>
                    obtain rfl := Option.some.inj H
                    go_wp2_with (first | ((with_reducible refine gate_callee (f := 11) rfl ?_); refine goesL_ (some 33) rfl rfl Tryd.func11 (by kernel_rfl) rfl #[.string a1] rfl (by (try simp only [List.map_toArray, List.map_cons, List.map_nil]); first | done | rfl | (simp only [List.length_drop, List.length_take]; rfl)) ?_; (with_reducible refine (laws_mtGuard.calls kj5 a1 t156 _ A13.out).mono ?_); rintro e w22 ⟨rfl, hb⟩; refine ⟨_, rfl, ?_⟩; have n0_ := Aside0.mk (below_step (by repeat (first | (with_reducible first | exact HB.out | apply below_alloc | apply pw_below_drewN | apply below_drew1) | exact HB.out)) hb); clear HB; have HB := n0_; clear n0_; (try clear hb); (try clear hb2); (try clear hk); (try clear hi)) | ((with_reducible refine gate_callee (f := 10) rfl ?_); refine goesL_ (some 35) rfl rfl Tryd.func10 (by kernel_rfl) rfl #[.string a0, .string (t156 ++ (⟨#[42]⟩ : ByteArray))] rfl (by (try simp only [List.map_toArray, List.map_cons, List.map_nil]); first | done | rfl | (simp only [List.length_drop, List.length_take]; rfl)) ?_; (with_reducible refine (impl_MtMatch.calls kj5 a0 (t156 ++ (⟨#[42]⟩ : ByteArray)) t157 _ ?side1 ?side2 A15.out).mono ?_); (case side1 => repeat (first | exact Kd.C_below HRG4.out (by repeat (first | (with_reducible first | exact HB.out | apply below_alloc | apply pw_below_drewN | apply below_drew1) | exact HB.out)) | exact HRG4.out | (with_reducible refine Kd.C_alloc ?_ _) | (with_reducible refine Kd.C_drewN ?_ _) | (with_reducible refine Kd.C_drew ?_))); (case side2 => repeat (first | exact Kd.C_below HRG5.out (by repeat (first | (with_reducible first | exact HB.out | apply below_alloc | apply pw_below_drewN | apply below_drew1) | exact HB.out)) | exact HRG5.out | (with_reducible refine Kd.C_alloc ?_ _) | (with_reducible refine Kd.C_drewN ?_ _) | (with_reducible refine Kd.C_drew ?_))); rintro e w23 ⟨rfl, hb⟩; refine ⟨_, rfl, ?_⟩; have n0_ := Aside0.mk (below_step (by repeat (first | (with_reducible first | exact HB.out | apply below_alloc | apply pw_below_drewN | apply below_drew1) | exact HB.out)) hb); clear HB; have HB := n0_; clear n0_; (try clear hb); (try clear hb2); (try clear hk); (try clear hi)))
                    go_ret
                    exact ⟨by first | rfl | (simp [errW_none, errW_some] <;> rfl) | (simp [*, errW_none, errW_some] <;> rfl), by repeat (first | (with_reducible first | exact HB.out | apply below_alloc | apply pw_below_drewN | apply below_drew1) | exact HB.out)⟩
              · rw [if_neg c14] at H
                exact absurd H (by simp)

/-- THE ONE PURE STATEMENT of laws_FnMtAhead: yours. -/
def laws_FnMtAhead.Pure : Prop := ∀ (a0 : ByteArray) (a1 : ByteArray), a0.size ≤ 140737488351232 → a1.size ≤ 140737488351232 → ∃ k, laws_FnMtAhead.f k a0 a1 = some true
theorem laws_FnMtAhead.walk (P : laws_FnMtAhead.Pure) (a0 : ByteArray) (a1 : ByteArray) (w : World) (w0 : a0.size ≤ 140737488351232) (w1 : a1.size ≤ 140737488351232) (hT4 : Kd.C (Kd.int .u8) w (some ⟨4, 0, none⟩) tabG4.length tabG4) (hT5 : Kd.C k159 w (some ⟨5, 0, none⟩) tabG5.length tabG5) :
    Calls Tryd.prog 3 #[.string a0, .string a1] w fun e w' => e = .returned (.bool true) ∧ Below w.heap.size w w' := by
  obtain ⟨k, h⟩ := P a0 a1 w0 w1
  refine (laws_FnMtAhead.calls k a0 a1 true w hT4 hT5 h).mono ?_
  rintro e w' ⟨rfl, hd⟩
  exact ⟨rfl, hd⟩

end Go.Proofs.YtfpbbnllaogclaaDoor.PA
