-- Written by a program of this session out of the translation (a changed copy of the kit's print); Lean checks it.
import Derived.Test.YtfpbbnllaogclaaDoorPAx0
import Derived.Test.YtfpbbnllaogclaaDoorPAx1
import Derived.Test.YtfpbbnllaogclaaDoorPAx3
import Derived.Test.YtfpbbnllaogclaaDoorPAx9
import Derived.Test.YtfpbbnllaogclaaDoorPAx11
namespace Go.Proofs.YtfpbbnllaogclaaDoor.PA
open Go.RowKit Go.Proofs.YtfpbbnllaogclaaDoorW.PrintWords Go.Proofs.YtfpbbnllaogclaaDoorW.PrintLast Go.Proofs.YtfpbbnllaogclaaDoorW.PrintMore
attribute [local go_sem] max2_int min2_int max_two min_two max_three min_three max_four min_four   -- for this text's walks alone
set_option linter.unusedVariables false
set_option linter.unusedSimpArgs false

/-! ### utf8_DecodeLastRuneInString: function 102 -/
mutual
def utf8_DecodeLastRuneInString.j1 : Nat → ByteArray → Int → Int → Option (Int × Int)
  | 0, _, _, _ => none
  | k + 1, x0, x4, x5 => if x5 < 0 then (if 0 ≤ x4 then (if x4 ≤ (x0.size : Int) then ((utf8_DecodeRuneInString.f k (x0.extract 0 (x4 : Int).toNat)).bind fun bt114 => (if (wrap64 (bt114.2)) = x4 then (some (bt114.1, bt114.2)) else (some (65533, 1)))) else (none)) else (none)) else (if 0 ≤ x5 then (if x5 ≤ x4 then (if x4 ≤ (x0.size : Int) then ((utf8_DecodeRuneInString.f k (x0.extract (x5 : Int).toNat (x4 : Int).toNat)).bind fun bt116 => (if (wrap64 (x5 + bt116.2)) = x4 then (some (bt116.1, bt116.2)) else (some (65533, 1)))) else (none)) else (none)) else (none))
def utf8_DecodeLastRuneInString.l0 : Nat → ByteArray → Int → Int → Int → Option (Int × Int)
  | 0, _, _, _, _ => none
  | k + 1, x0, x4, x5, x6 => if x5 ≥ x6 then (if 0 ≤ x5 then (if x5 < (x0.size : Int) then ((utf8_RuneStart.f (bt x0 x5)).bind fun t113 => (if t113 = true then (utf8_DecodeLastRuneInString.j1 k x0 x4 x5) else (utf8_DecodeLastRuneInString.l0 k x0 x4 (wrap64 (x5 - 1)) x6))) else (none)) else (none)) else (utf8_DecodeLastRuneInString.j1 k x0 x4 x5)
end
def utf8_DecodeLastRuneInString.f (k : Nat) (a0 : ByteArray) : Option (Int × Int) := if (a0.size : Int) = 0 then (some (65533, 0)) else (if 0 ≤ (wrap64 ((a0.size : Int) - 1)) then (if (wrap64 ((a0.size : Int) - 1)) < (a0.size : Int) then (if (wrap32 (bt a0 (wrap64 ((a0.size : Int) - 1)))) < 128 then (some (wrap32 (bt a0 (wrap64 ((a0.size : Int) - 1))), 1)) else (utf8_DecodeLastRuneInString.l0 k a0 (a0.size : Int) (wrap64 ((wrap64 ((a0.size : Int) - 1)) - 1)) (mx (wrap64 ((a0.size : Int) - 4)) 0))) else (none)) else (none))
theorem utf8_DecodeLastRuneInString.mono_l : ∀ k, (∀ y0 y1 y2, LeO (utf8_DecodeLastRuneInString.j1 k y0 y1 y2) (utf8_DecodeLastRuneInString.j1 (k + 1) y0 y1 y2)) ∧ (∀ y0 y1 y2 y3, LeO (utf8_DecodeLastRuneInString.l0 k y0 y1 y2 y3) (utf8_DecodeLastRuneInString.l0 (k + 1) y0 y1 y2 y3))
  | 0 => ⟨fun _ _ _ r h => by simp [utf8_DecodeLastRuneInString.j1] at h, fun _ _ _ _ r h => by simp [utf8_DecodeLastRuneInString.l0] at h⟩
  | k + 1 => by
    obtain ⟨ih0, ih1⟩ := utf8_DecodeLastRuneInString.mono_l k
    refine ⟨?_, ?_⟩
    · intro y0 y1 y2
      unfold utf8_DecodeLastRuneInString.j1
      repeat' first
      | (with_reducible exact ih0 _ _ _)
      | (with_reducible exact ih1 _ _ _ _)
      | (with_reducible exact utf8_DecodeRuneInString.mono _ _)
      | (with_reducible exact LeO.refl _)
      | (with_reducible exact LeO.none _)
      | (with_reducible refine LeO.ite ?_ ?_)
      | (with_reducible refine LeO.bind ?_ (fun _ => ?_))
      | exact ih0 _ _ _
      | exact ih1 _ _ _ _
      | exact utf8_DecodeRuneInString.mono _ _
      | exact LeO.none _
      | refine LeO.ite ?_ ?_
      | refine LeO.bind ?_ (fun _ => ?_)
    · intro y0 y1 y2 y3
      unfold utf8_DecodeLastRuneInString.l0
      repeat' first
      | (with_reducible exact ih0 _ _ _)
      | (with_reducible exact ih1 _ _ _ _)
      | (with_reducible exact utf8_DecodeRuneInString.mono _ _)
      | (with_reducible exact LeO.refl _)
      | (with_reducible exact LeO.none _)
      | (with_reducible refine LeO.ite ?_ ?_)
      | (with_reducible refine LeO.bind ?_ (fun _ => ?_))
      | exact ih0 _ _ _
      | exact ih1 _ _ _ _
      | exact utf8_DecodeRuneInString.mono _ _
      | exact LeO.none _
      | refine LeO.ite ?_ ?_
      | refine LeO.bind ?_ (fun _ => ?_)
theorem utf8_DecodeLastRuneInString.mono : ∀ a0 k, LeO (utf8_DecodeLastRuneInString.f k a0) (utf8_DecodeLastRuneInString.f (k + 1) a0) := by
  intro a0 k
  obtain ⟨ih0, ih1⟩ := utf8_DecodeLastRuneInString.mono_l k
  unfold utf8_DecodeLastRuneInString.f
  repeat' first
      | (with_reducible exact ih0 _ _ _)
      | (with_reducible exact ih1 _ _ _ _)
      | (with_reducible exact utf8_DecodeRuneInString.mono _ _)
      | (with_reducible exact LeO.refl _)
      | (with_reducible exact LeO.none _)
      | (with_reducible refine LeO.ite ?_ ?_)
      | (with_reducible refine LeO.bind ?_ (fun _ => ?_))
      | exact ih0 _ _ _
      | exact ih1 _ _ _ _
      | exact utf8_DecodeRuneInString.mono _ _
      | exact LeO.none _
      | refine LeO.ite ?_ ?_
      | refine LeO.bind ?_ (fun _ => ?_)
set_option maxHeartbeats 8000000 in
set_option maxRecDepth 100000 in
theorem utf8_DecodeLastRuneInString.calls (k : Nat) (a0 : ByteArray) (r1 : Int) (r2 : Int) (w : World) (hT4 : Kd.C (Kd.int .u8) w (some ⟨4, 0, none⟩) tabG4.length tabG4) (hT5 : Kd.C k159 w (some ⟨5, 0, none⟩) tabG5.length tabG5) (h : utf8_DecodeLastRuneInString.f k a0 = some (r1, r2)) :
    Calls Tryd.prog 102 #[.string a0] w fun e w' => e = .returned (.tuple #[.int .i32 r1, .int .i64 r2]) ∧ Below w.heap.size w w' := by
  have HRG4 := Aside0.mk hT4
  clear hT4
  have HRG5 := Aside0.mk hT5
  clear hT5
  have HB := Aside0.mk (Below.refl w.heap.size w)
  have H : (if (a0.size : Int) = 0 then (some (65533, 0)) else (if 0 ≤ (wrap64 ((a0.size : Int) - 1)) then (if (wrap64 ((a0.size : Int) - 1)) < (a0.size : Int) then (if (wrap32 (bt a0 (wrap64 ((a0.size : Int) - 1)))) < 128 then (some (wrap32 (bt a0 (wrap64 ((a0.size : Int) - 1))), 1)) else (utf8_DecodeLastRuneInString.l0 k a0 (a0.size : Int) (wrap64 ((wrap64 ((a0.size : Int) - 1)) - 1)) (mx (wrap64 ((a0.size : Int) - 4)) 0))) else (none)) else (none))) = some (r1, r2) := h
  clear h
  by_cases c2 : (a0.size : Int) = 0
  · rw [if_pos c2] at H
    have c2b0 : ((a0.size : Int) == 0) = true := beq_iff_eq.mpr c2
    have c2b1 : ((a0.size : Int) != 0) = false := bne_eq_false_iff_eq.mpr c2
    clear c2
    as_aux_lemma =>
      simp only [Option.some.injEq, Prod.mk.injEq] at H
      obtain ⟨rfl, rfl⟩ := H
      go_enter Tryd.func102, Tryd.ntmps102
      go_wp2
      go_ret2
      exact ⟨by first | rfl | (simp [errW_none, errW_some] <;> rfl) | (simp [*, errW_none, errW_some] <;> rfl), by repeat (first | (with_reducible first | exact HB.out | apply below_alloc | apply pw_below_drewN | apply below_drew1) | exact HB.out)⟩
  · rw [if_neg c2] at H
    have c2b0 : ((a0.size : Int) == 0) = false := beq_eq_false_iff_ne.mpr c2
    have c2b1 : ((a0.size : Int) != 0) = true := bne_iff_ne.mpr c2
    obtain ⟨ji3, hji3⟩ : ∃ j_ : Int, (wrap64 ((a0.size : Int) - 1)) = j_ := ⟨_, rfl⟩
    replace H : (if 0 ≤ (ji3) then (if (ji3) < (a0.size : Int) then (if (wrap32 (bt a0 (ji3))) < 128 then (some (wrap32 (bt a0 (ji3)), 1)) else (utf8_DecodeLastRuneInString.l0 k a0 (a0.size : Int) (wrap64 ((ji3) - 1)) (mx (wrap64 ((a0.size : Int) - 4)) 0))) else (none)) else (none)) = some (r1, r2) := by first | (rw [hji3] at H; exact H) | (simp only [hji3] at H ⊢; exact H)
    have hji3w : (IntKind.i64.wrap ((a0.size : Int) - 1)) = ji3 := (i64_w _).trans hji3
    by_cases c4 : 0 ≤ (ji3)
    · rw [if_pos c4] at H
      have c4b0 : decide (0 ≤ (ji3)) = true := decide_eq_true c4
      clear c4
      by_cases c5 : (ji3) < (a0.size : Int)
      · rw [if_pos c5] at H
        have c5b0 : decide ((ji3) < (a0.size : Int)) = true := decide_eq_true c5
        clear c5
        by_cases c7 : (wrap32 (bt a0 (ji3))) < 128
        · rw [if_pos c7] at H
          have c7b0 : decide ((wrap32 (bt a0 (ji3))) < 128) = true := decide_eq_true c7
          clear c7
          as_aux_lemma =>
            simp only [Option.some.injEq, Prod.mk.injEq] at H
            obtain ⟨rfl, rfl⟩ := H
            have p6 : 0 ≤ ((ji3) : Int) := of_decide_eq_true (by first | (with_reducible assumption) | assumption)
            have q6 : (ji3) < (a0.size : Int) := of_decide_eq_true (by first | (with_reducible assumption) | assumption)
            have hx6 := bt_at a0 (ji3)
            replace p6 := eq_true p6
            replace q6 := eq_true q6
            go_enter Tryd.func102, Tryd.ntmps102
            go_wp2
            go_ret2
            exact ⟨by first | rfl | (simp [errW_none, errW_some] <;> rfl) | (simp only [← hji3]; first | rfl | (simp [errW_none, errW_some] <;> rfl)) | (simp [*, errW_none, errW_some] <;> rfl), by repeat (first | (with_reducible first | exact HB.out | apply below_alloc | apply pw_below_drewN | apply below_drew1) | exact HB.out)⟩
        · rw [if_neg c7] at H
          have c7b0 : decide ((wrap32 (bt a0 (ji3))) < 128) = false := decide_eq_false c7
          clear c7
          obtain ⟨ji8, hji8⟩ : ∃ j_ : Int, (mx (wrap64 ((a0.size : Int) - 4)) 0) = j_ := ⟨_, rfl⟩
          replace H : (utf8_DecodeLastRuneInString.l0 k a0 (a0.size : Int) (wrap64 ((ji3) - 1)) ji8) = some (r1, r2) := by first | (rw [hji8] at H; exact H) | (simp only [hji8] at H ⊢; exact H)
          (try (have hji8l : 0 ≤ ji8 := by (rw [← hji8]; unfold mx; (repeat' split) <;> omega)))
          (try (have hji8m : 0 ≤ ji8 := by omega))
          have hji8_ : (if (wrap64 ((a0.size : Int) - 4)) < 0 then 0 else (wrap64 ((a0.size : Int) - 4))) = ji8 := hji8
          have HC9 := Aside0.mk H
          clear H
          have p6 : 0 ≤ ((ji3) : Int) := of_decide_eq_true (by first | (with_reducible assumption) | assumption)
          have q6 : (ji3) < (a0.size : Int) := of_decide_eq_true (by first | (with_reducible assumption) | assumption)
          have hx6 := bt_at a0 (ji3)
          replace p6 := eq_true p6
          replace q6 := eq_true q6
          go_enter Tryd.func102, Tryd.ntmps102
          go_upto_block 0 with (fail)
          go_cut [5] (fun v5 wc => ∃ (kq : Nat) (x5_8 : Int), v5 = .int .i64 x5_8 ∧ Aside0 (utf8_DecodeLastRuneInString.j1 kq a0 (a0.size : Int) x5_8 = some (r1, r2)) ∧ Aside0 (kq ≤ k) ∧ Aside0 (Below w.heap.size w wc))
          case first =>
            have H := HC9.out
            clear HC9
            have H' := Aside0.mk H
            clear H
            go_wp2
            try simp only [Act.put, List.setIfInBounds_toArray, List.set_cons_succ, List.set_cons_zero]
            go_loopg [5] k (fun kq v5 w' => ∃ (x5_1 : Int), v5 = .int .i64 x5_1 ∧ Aside0 (utf8_DecodeLastRuneInString.l0 kq a0 (a0.size : Int) x5_1 ji8 = some (r1, r2)) ∧ Aside0 (kq ≤ k) ∧ Aside0 (Below w.heap.size w w'))
            case atStart => exact ⟨(wrap64 ((ji3) - 1)), (by first | rfl | (simp; done) | (simp only [← hji3] <;> (first | rfl | (simp; done))) | (simp [*]; done)), H', ⟨Nat.le_refl _⟩, ⟨by repeat (first | (with_reducible first | exact HB.out | apply below_alloc | apply pw_below_drewN | apply below_drew1) | exact HB.out)⟩⟩
            case round =>
              clear H'
              try clear c1
              try clear c2
              try clear c2b0
              try clear c2b1
              try clear p2
              try clear p3
              try clear c4
              try clear c4b0
              try clear c5
              try clear c5b0
              try clear p6
              try clear q6
              try clear hx6
              try clear c7
              try clear c7b0
              try clear p6
              try clear q6
              obtain ⟨x5_1, rfl, HA, HK1, HB⟩ := hrel
              cases gk with
              | zero => exact absurd HA.out (by simp [utf8_DecodeLastRuneInString.l0])
              | succ k1 =>
                have H := HA.out
                clear HA
                simp only [utf8_DecodeLastRuneInString.l0] at H
                by_cases c10 : x5_1 ≥ ji8
                · rw [if_pos c10] at H
                  have c10b0 : decide (ji8 ≤ x5_1) = true := decide_eq_true c10
                  clear c10
                  (first | rw [c10b0] | (simp only [i64_w, i32_w]; rw [c10b0]) | rw [c10b1] | skip)
                  by_cases c11 : 0 ≤ x5_1
                  · rw [if_pos c11] at H
                    have c11b0 : decide (0 ≤ x5_1) = true := decide_eq_true c11
                    clear c11
                    by_cases c12 : x5_1 < (a0.size : Int)
                    · rw [if_pos c12] at H
                      have c12b0 : decide (x5_1 < (a0.size : Int)) = true := decide_eq_true c12
                      clear c12
                      replace H := Option.bind_eq_some_iff.mp H
                      obtain ⟨t113, A140, H⟩ := H
                      replace H : (if t113 = true then (utf8_DecodeLastRuneInString.j1 k1 a0 (a0.size : Int) x5_1) else (utf8_DecodeLastRuneInString.l0 k1 a0 (a0.size : Int) (wrap64 (x5_1 - 1)) ji8)) = some (r1, r2) := H
                      have A14 := Aside0.mk A140
                      clear A140
                      by_cases c15 : t113 = true
                      · subst c15
                        have H1 : (utf8_DecodeLastRuneInString.j1 k1 a0 (a0.size : Int) x5_1) = some (r1, r2) := by rw [if_pos rfl] at H; exact H
                        clear H
                        have H := H1
                        clear H1
                        as_aux_lemma =>
                          have H' := Aside0.mk H
                          clear H
                          have p13 : 0 ≤ (x5_1 : Int) := of_decide_eq_true (by first | (with_reducible assumption) | assumption)
                          have q13 : x5_1 < (a0.size : Int) := of_decide_eq_true (by first | (with_reducible assumption) | assumption)
                          have hx13 := bt_at a0 x5_1
                          replace p13 := eq_true p13
                          replace q13 := eq_true q13
                          go_wp2_with (first | ((with_reducible refine gate_callee (f := 115) rfl ?_); refine goesL_ (some 33) rfl rfl Tryd.func115 (by kernel_rfl) rfl #[.int .u8 (bt a0 x5_1)] rfl (by (try simp only [List.map_toArray, List.map_cons, List.map_nil]); first | done | rfl | (simp only [List.length_drop, List.length_take]; rfl)) ?_; (with_reducible refine (utf8_RuneStart.calls (bt a0 x5_1) true _ A14.out).mono ?_); rintro e w' ⟨rfl, ⟨nd, rfl⟩⟩; refine ⟨_, rfl, ?_⟩))
                          go_meet
                          case rel => exact ⟨_, (x5_1), (by first | rfl | (simp; done) | (simp [*]; done)), H', ⟨by have := HK1.out; first | omega | exact Nat.le_refl _⟩, ⟨by repeat (first | (with_reducible first | exact HB.out | apply below_alloc | apply pw_below_drewN | apply below_drew1) | exact HB.out)⟩⟩
                      · replace c15 := Bool.eq_false_iff.mpr c15
                        subst c15
                        have H1 : (utf8_DecodeLastRuneInString.l0 k1 a0 (a0.size : Int) (wrap64 (x5_1 - 1)) ji8) = some (r1, r2) := by rw [if_neg (show ¬ (false = true) by decide)] at H; exact H
                        clear H
                        have H := H1
                        clear H1
                        as_aux_lemma =>
                          have H' := Aside0.mk H
                          clear H
                          have p13 : 0 ≤ (x5_1 : Int) := of_decide_eq_true (by first | (with_reducible assumption) | assumption)
                          have q13 : x5_1 < (a0.size : Int) := of_decide_eq_true (by first | (with_reducible assumption) | assumption)
                          have hx13 := bt_at a0 x5_1
                          replace p13 := eq_true p13
                          replace q13 := eq_true q13
                          go_wp2_with (first | ((with_reducible refine gate_callee (f := 115) rfl ?_); refine goesL_ (some 33) rfl rfl Tryd.func115 (by kernel_rfl) rfl #[.int .u8 (bt a0 x5_1)] rfl (by (try simp only [List.map_toArray, List.map_cons, List.map_nil]); first | done | rfl | (simp only [List.length_drop, List.length_take]; rfl)) ?_; (with_reducible refine (utf8_RuneStart.calls (bt a0 x5_1) false _ A14.out).mono ?_); rintro e w' ⟨rfl, ⟨nd, rfl⟩⟩; refine ⟨_, rfl, ?_⟩))
                          go_roundg k1
                          case measure => have := HK1.out; omega
                          case rel => exact ⟨(wrap64 (x5_1 - 1)), (by first | rfl | (simp; done) | (simp [*]; done)), H', ⟨by have := HK1.out; omega⟩, ⟨by repeat (first | (with_reducible first | exact HB.out | apply below_alloc | apply pw_below_drewN | apply below_drew1) | exact HB.out)⟩⟩
                    · rw [if_neg c12] at H
                      exact absurd H (by simp)
                  · rw [if_neg c11] at H
                    exact absurd H (by simp)
                · rw [if_neg c10] at H
                  have c10b0 : decide (ji8 ≤ x5_1) = false := decide_eq_false c10
                  clear c10
                  (first | rw [c10b0] | (simp only [i64_w, i32_w]; rw [c10b0]) | rw [c10b1] | skip)
                  as_aux_lemma =>
                    have H' := Aside0.mk H
                    clear H
                    go_wp2
                    go_meet
                    case rel => exact ⟨_, (x5_1), (by first | rfl | (simp; done) | (simp [*]; done)), H', ⟨by have := HK1.out; first | omega | exact Nat.le_refl _⟩, ⟨by repeat (first | (with_reducible first | exact HB.out | apply below_alloc | apply pw_below_drewN | apply below_drew1) | exact HB.out)⟩⟩
          case rest =>
            clear HC9
            try clear c1
            try clear p1
            try clear q1
            try clear hx1
            try clear c2
            try clear c2b0
            try clear c2b1
            try clear p2
            try clear p3
            try clear c4
            try clear c4b0
            try clear c5
            try clear c5b0
            try clear p6
            try clear q6
            try clear hx6
            try clear c7
            try clear c7b0
            try clear c10
            try clear c10b0
            try clear c10b1
            try clear c11
            try clear c11b0
            try clear c12
            try clear c12b0
            try clear p13
            try clear q13
            try clear hx13
            try clear c15
            try clear p13
            try clear p2
            try clear p3
            try clear p6
            try clear q13
            try clear q6
            obtain ⟨kq, x5_8, rfl, HA, HJ8, HB⟩ := hcut
            cases kq with
            | zero => exact absurd HA.out (by simp [utf8_DecodeLastRuneInString.j1])
            | succ kj8 =>
              have H := HA.out
              clear HA
              simp only [utf8_DecodeLastRuneInString.j1] at H
              by_cases c16 : x5_8 < 0
              · rw [if_pos c16] at H
                have c16b0 : decide (x5_8 < 0) = true := decide_eq_true c16
                clear c16
                by_cases c17 : 0 ≤ (a0.size : Int)
                · rw [if_pos c17] at H
                  have c17b0 := eq_true c17
                  have c17b1 : decide (0 ≤ (a0.size : Int)) = true := decide_eq_true c17
                  clear c17
                  by_cases c18 : (a0.size : Int) ≤ (a0.size : Int)
                  · rw [if_pos c18] at H
                    have c18b0 := eq_true c18
                    have c18b1 : decide ((a0.size : Int) ≤ (a0.size : Int)) = true := decide_eq_true c18
                    clear c18
                    replace H := Option.bind_eq_some_iff.mp H
                    obtain ⟨⟨t114, t115⟩, A190, H⟩ := H
                    replace H : (if (wrap64 (t115)) = (a0.size : Int) then (some (t114, t115)) else (some (65533, 1))) = some (r1, r2) := H
                    have A19 := Aside0.mk A190
                    clear A190
                    by_cases c20 : (wrap64 (t115)) = (a0.size : Int)
                    · rw [if_pos c20] at H
                      have c20b0 : ((wrap64 (t115)) == (a0.size : Int)) = true := beq_iff_eq.mpr c20
                      have c20b1 : ((wrap64 (t115)) != (a0.size : Int)) = false := bne_eq_false_iff_eq.mpr c20
                      clear c20
                      as_aux_lemma =>
                        simp only [Option.some.injEq, Prod.mk.injEq] at H
                        obtain ⟨rfl, rfl⟩ := H
                        try have hcs21 := fun W_ : World => run_slice_string (P := Tryd.prog) W_ 9 a0 .i64 .i64 0 (a0.size : Int) Tryd.underlying9 (by omega) (of_decide_eq_true (by first | (with_reducible assumption) | assumption)) (of_decide_eq_true (by first | (with_reducible assumption) | assumption))
                        go_wp2_with (first | ((with_reducible refine gate_callee (f := 82) rfl ?_); refine goesL_ (some 41) rfl rfl Tryd.func82 (by kernel_rfl) rfl #[.string a0] rfl (by (try simp only [List.map_toArray, List.map_cons, List.map_nil]); first | done | rfl | (simp only [List.length_drop, List.length_take]; rfl)) ?_; (with_reducible refine (utf8_DecodeRuneInString.calls kj8 a0 t114 t115 _ ?side1 ?side2 (by first | exact A19.out | (have h_ := A19.out; rw [show a0.extract 0 ((a0.size : Int) : Int).toNat = a0 from by simp] at h_; exact h_))).mono ?_); (case side1 => repeat (first | exact Kd.C_below HRG4.out (by repeat (first | (with_reducible first | exact HB.out | apply below_alloc | apply pw_below_drewN | apply below_drew1) | exact HB.out)) | exact HRG4.out | (with_reducible refine Kd.C_alloc ?_ _) | (with_reducible refine Kd.C_drewN ?_ _) | (with_reducible refine Kd.C_drew ?_))); (case side2 => repeat (first | exact Kd.C_below HRG5.out (by repeat (first | (with_reducible first | exact HB.out | apply below_alloc | apply pw_below_drewN | apply below_drew1) | exact HB.out)) | exact HRG5.out | (with_reducible refine Kd.C_alloc ?_ _) | (with_reducible refine Kd.C_drewN ?_ _) | (with_reducible refine Kd.C_drew ?_))); rintro e w22 ⟨rfl, hb⟩; refine ⟨_, rfl, ?_⟩; have n0_ := Aside0.mk (below_step (by repeat (first | (with_reducible first | exact HB.out | apply below_alloc | apply pw_below_drewN | apply below_drew1) | exact HB.out)) hb); clear HB; have HB := n0_; clear n0_; (try clear hb); (try clear hb2); (try clear hk); (try clear hi)))
                        go_ret2
                        exact ⟨by first | rfl | (simp [errW_none, errW_some] <;> rfl) | (simp only [← hji3, ← hji8]; first | rfl | (simp [errW_none, errW_some] <;> rfl)) | (simp [*, errW_none, errW_some] <;> rfl), by repeat (first | (with_reducible first | exact HB.out | apply below_alloc | apply pw_below_drewN | apply below_drew1) | exact HB.out)⟩
                    · rw [if_neg c20] at H
                      have c20b0 : ((wrap64 (t115)) == (a0.size : Int)) = false := beq_eq_false_iff_ne.mpr c20
                      have c20b1 : ((wrap64 (t115)) != (a0.size : Int)) = true := bne_iff_ne.mpr c20
                      as_aux_lemma =>
                        simp only [Option.some.injEq, Prod.mk.injEq] at H
                        obtain ⟨rfl, rfl⟩ := H
                        try have hcs23 := fun W_ : World => run_slice_string (P := Tryd.prog) W_ 9 a0 .i64 .i64 0 (a0.size : Int) Tryd.underlying9 (by omega) (of_decide_eq_true (by first | (with_reducible assumption) | assumption)) (of_decide_eq_true (by first | (with_reducible assumption) | assumption))
                        go_wp2_with (first | ((with_reducible refine gate_callee (f := 82) rfl ?_); refine goesL_ (some 41) rfl rfl Tryd.func82 (by kernel_rfl) rfl #[.string a0] rfl (by (try simp only [List.map_toArray, List.map_cons, List.map_nil]); first | done | rfl | (simp only [List.length_drop, List.length_take]; rfl)) ?_; (with_reducible refine (utf8_DecodeRuneInString.calls kj8 a0 t114 t115 _ ?side1 ?side2 (by first | exact A19.out | (have h_ := A19.out; rw [show a0.extract 0 ((a0.size : Int) : Int).toNat = a0 from by simp] at h_; exact h_))).mono ?_); (case side1 => repeat (first | exact Kd.C_below HRG4.out (by repeat (first | (with_reducible first | exact HB.out | apply below_alloc | apply pw_below_drewN | apply below_drew1) | exact HB.out)) | exact HRG4.out | (with_reducible refine Kd.C_alloc ?_ _) | (with_reducible refine Kd.C_drewN ?_ _) | (with_reducible refine Kd.C_drew ?_))); (case side2 => repeat (first | exact Kd.C_below HRG5.out (by repeat (first | (with_reducible first | exact HB.out | apply below_alloc | apply pw_below_drewN | apply below_drew1) | exact HB.out)) | exact HRG5.out | (with_reducible refine Kd.C_alloc ?_ _) | (with_reducible refine Kd.C_drewN ?_ _) | (with_reducible refine Kd.C_drew ?_))); rintro e w24 ⟨rfl, hb⟩; refine ⟨_, rfl, ?_⟩; have n0_ := Aside0.mk (below_step (by repeat (first | (with_reducible first | exact HB.out | apply below_alloc | apply pw_below_drewN | apply below_drew1) | exact HB.out)) hb); clear HB; have HB := n0_; clear n0_; (try clear hb); (try clear hb2); (try clear hk); (try clear hi)))
                        go_ret2
                        exact ⟨by first | rfl | (simp [errW_none, errW_some] <;> rfl) | (simp only [← hji3, ← hji8]; first | rfl | (simp [errW_none, errW_some] <;> rfl)) | (simp [*, errW_none, errW_some] <;> rfl), by repeat (first | (with_reducible first | exact HB.out | apply below_alloc | apply pw_below_drewN | apply below_drew1) | exact HB.out)⟩
                  · rw [if_neg c18] at H
                    exact absurd H (by simp)
                · rw [if_neg c17] at H
                  exact absurd H (by simp)
              · rw [if_neg c16] at H
                have c16b0 : decide (x5_8 < 0) = false := decide_eq_false c16
                clear c16
                by_cases c25 : 0 ≤ x5_8
                · rw [if_pos c25] at H
                  have c25b0 := eq_true c25
                  have c25b1 : decide (0 ≤ x5_8) = true := decide_eq_true c25
                  clear c25
                  by_cases c26 : x5_8 ≤ (a0.size : Int)
                  · rw [if_pos c26] at H
                    have c26b0 := eq_true c26
                    have c26b1 : decide (x5_8 ≤ (a0.size : Int)) = true := decide_eq_true c26
                    clear c26
                    by_cases c27 : (a0.size : Int) ≤ (a0.size : Int)
                    · rw [if_pos c27] at H
                      have c27b0 := eq_true c27
                      have c27b1 : decide ((a0.size : Int) ≤ (a0.size : Int)) = true := decide_eq_true c27
                      clear c27
                      replace H := Option.bind_eq_some_iff.mp H
                      obtain ⟨⟨t116, t117⟩, A280, H⟩ := H
                      replace H : (if (wrap64 (x5_8 + t117)) = (a0.size : Int) then (some (t116, t117)) else (some (65533, 1))) = some (r1, r2) := H
                      have A28 := Aside0.mk A280
                      clear A280
                      by_cases c29 : (wrap64 (x5_8 + t117)) = (a0.size : Int)
                      · rw [if_pos c29] at H
                        have c29b0 : ((wrap64 (x5_8 + t117)) == (a0.size : Int)) = true := beq_iff_eq.mpr c29
                        have c29b1 : ((wrap64 (x5_8 + t117)) != (a0.size : Int)) = false := bne_eq_false_iff_eq.mpr c29
                        clear c29
                        as_aux_lemma =>
                          simp only [Option.some.injEq, Prod.mk.injEq] at H
                          obtain ⟨rfl, rfl⟩ := H
                          try have hcs30 := fun W_ : World => run_slice_string (P := Tryd.prog) W_ 9 a0 .i64 .i64 x5_8 (a0.size : Int) Tryd.underlying9 (of_decide_eq_true (by first | (with_reducible assumption) | assumption)) (of_decide_eq_true (by first | (with_reducible assumption) | assumption)) (of_decide_eq_true (by first | (with_reducible assumption) | assumption))
                          go_wp2_with (first | ((with_reducible refine gate_callee (f := 82) rfl ?_); refine goesL_ (some 41) rfl rfl Tryd.func82 (by kernel_rfl) rfl #[.string (a0.extract (x5_8 : Int).toNat ((a0.size : Int) : Int).toNat)] rfl (by (try simp only [List.map_toArray, List.map_cons, List.map_nil]); first | done | rfl | (simp only [List.length_drop, List.length_take]; rfl)) ?_; (with_reducible refine (utf8_DecodeRuneInString.calls kj8 (a0.extract (x5_8 : Int).toNat ((a0.size : Int) : Int).toNat) t116 t117 _ ?side1 ?side2 A28.out).mono ?_); (case side1 => repeat (first | exact Kd.C_below HRG4.out (by repeat (first | (with_reducible first | exact HB.out | apply below_alloc | apply pw_below_drewN | apply below_drew1) | exact HB.out)) | exact HRG4.out | (with_reducible refine Kd.C_alloc ?_ _) | (with_reducible refine Kd.C_drewN ?_ _) | (with_reducible refine Kd.C_drew ?_))); (case side2 => repeat (first | exact Kd.C_below HRG5.out (by repeat (first | (with_reducible first | exact HB.out | apply below_alloc | apply pw_below_drewN | apply below_drew1) | exact HB.out)) | exact HRG5.out | (with_reducible refine Kd.C_alloc ?_ _) | (with_reducible refine Kd.C_drewN ?_ _) | (with_reducible refine Kd.C_drew ?_))); rintro e w31 ⟨rfl, hb⟩; refine ⟨_, rfl, ?_⟩; have n0_ := Aside0.mk (below_step (by repeat (first | (with_reducible first | exact HB.out | apply below_alloc | apply pw_below_drewN | apply below_drew1) | exact HB.out)) hb); clear HB; have HB := n0_; clear n0_; (try clear hb); (try clear hb2); (try clear hk); (try clear hi)))
                          go_ret2
                          exact ⟨by first | rfl | (simp [errW_none, errW_some] <;> rfl) | (simp only [← hji3, ← hji8]; first | rfl | (simp [errW_none, errW_some] <;> rfl)) | (simp [*, errW_none, errW_some] <;> rfl), by repeat (first | (with_reducible first | exact HB.out | apply below_alloc | apply pw_below_drewN | apply below_drew1) | exact HB.out)⟩
                      · rw [if_neg c29] at H
                        have c29b0 : ((wrap64 (x5_8 + t117)) == (a0.size : Int)) = false := beq_eq_false_iff_ne.mpr c29
                        have c29b1 : ((wrap64 (x5_8 + t117)) != (a0.size : Int)) = true := bne_iff_ne.mpr c29
                        as_aux_lemma =>
                          simp only [Option.some.injEq, Prod.mk.injEq] at H
                          obtain ⟨rfl, rfl⟩ := H
                          try have hcs32 := fun W_ : World => run_slice_string (P := Tryd.prog) W_ 9 a0 .i64 .i64 x5_8 (a0.size : Int) Tryd.underlying9 (of_decide_eq_true (by first | (with_reducible assumption) | assumption)) (of_decide_eq_true (by first | (with_reducible assumption) | assumption)) (of_decide_eq_true (by first | (with_reducible assumption) | assumption))
                          go_wp2_with (first | ((with_reducible refine gate_callee (f := 82) rfl ?_); refine goesL_ (some 41) rfl rfl Tryd.func82 (by kernel_rfl) rfl #[.string (a0.extract (x5_8 : Int).toNat ((a0.size : Int) : Int).toNat)] rfl (by (try simp only [List.map_toArray, List.map_cons, List.map_nil]); first | done | rfl | (simp only [List.length_drop, List.length_take]; rfl)) ?_; (with_reducible refine (utf8_DecodeRuneInString.calls kj8 (a0.extract (x5_8 : Int).toNat ((a0.size : Int) : Int).toNat) t116 t117 _ ?side1 ?side2 A28.out).mono ?_); (case side1 => repeat (first | exact Kd.C_below HRG4.out (by repeat (first | (with_reducible first | exact HB.out | apply below_alloc | apply pw_below_drewN | apply below_drew1) | exact HB.out)) | exact HRG4.out | (with_reducible refine Kd.C_alloc ?_ _) | (with_reducible refine Kd.C_drewN ?_ _) | (with_reducible refine Kd.C_drew ?_))); (case side2 => repeat (first | exact Kd.C_below HRG5.out (by repeat (first | (with_reducible first | exact HB.out | apply below_alloc | apply pw_below_drewN | apply below_drew1) | exact HB.out)) | exact HRG5.out | (with_reducible refine Kd.C_alloc ?_ _) | (with_reducible refine Kd.C_drewN ?_ _) | (with_reducible refine Kd.C_drew ?_))); rintro e w33 ⟨rfl, hb⟩; refine ⟨_, rfl, ?_⟩; have n0_ := Aside0.mk (below_step (by repeat (first | (with_reducible first | exact HB.out | apply below_alloc | apply pw_below_drewN | apply below_drew1) | exact HB.out)) hb); clear HB; have HB := n0_; clear n0_; (try clear hb); (try clear hb2); (try clear hk); (try clear hi)))
                          go_ret2
                          exact ⟨by first | rfl | (simp [errW_none, errW_some] <;> rfl) | (simp only [← hji3, ← hji8]; first | rfl | (simp [errW_none, errW_some] <;> rfl)) | (simp [*, errW_none, errW_some] <;> rfl), by repeat (first | (with_reducible first | exact HB.out | apply below_alloc | apply pw_below_drewN | apply below_drew1) | exact HB.out)⟩
                    · rw [if_neg c27] at H
                      exact absurd H (by simp)
                  · rw [if_neg c26] at H
                    exact absurd H (by simp)
                · rw [if_neg c25] at H
                  exact absurd H (by simp)
      · rw [if_neg c5] at H
        exact absurd H (by simp)
    · rw [if_neg c4] at H
      exact absurd H (by simp)

end Go.Proofs.YtfpbbnllaogclaaDoor.PA
