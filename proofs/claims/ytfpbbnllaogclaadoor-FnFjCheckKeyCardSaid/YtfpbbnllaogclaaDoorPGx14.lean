-- Written by a program of this session out of the translation (a changed copy of the kit's print); Lean checks it.
import Derived.Test.YtfpbbnllaogclaaDoorPGx0
import Derived.Test.YtfpbbnllaogclaaDoorPGx1
import Derived.Test.YtfpbbnllaogclaaDoorPGx2
import Derived.Test.YtfpbbnllaogclaaDoorPGx9
import Derived.Test.YtfpbbnllaogclaaDoorPGx13
namespace Go.Proofs.YtfpbbnllaogclaaDoor.PG
open Go.RowKit Go.Proofs.YtfpbbnllaogclaaDoorW.PrintWords Go.Proofs.YtfpbbnllaogclaaDoorW.PrintLast Go.Proofs.YtfpbbnllaogclaaDoorW.PrintMore
attribute [local go_sem] max2_int min2_int max_two min_two max_three min_three max_four min_four   -- for this text's walks alone
set_option linter.unusedVariables false
set_option linter.unusedSimpArgs false

/-! ### fastjson_validateKey: function 67 -/
def fastjson_validateKey.l0 : Nat → ByteArray → Int → Int → Option (ByteArray × ByteArray × Option Int)
  | 0, _, _, _ => none
  | k + 1, x0, x7, x8 => if x8 < x7 then (if 0 ≤ x8 then (if x8 < (x0.size : Int) then (if (bt x0 x8) = 34 then (if x8 ≤ (x0.size : Int) then (if 0 ≤ (wrap64 (x8 + 1)) then (if (wrap64 (x8 + 1)) ≤ (x0.size : Int) then (some (x0.extract 0 (x8 : Int).toNat, x0.extract ((wrap64 (x8 + 1)) : Int).toNat x0.size, none)) else (none)) else (none)) else (none)) else (if (bt x0 x8) = 92 then ((fastjson_validateString.f k x0).bind fun bt134 => (some (bt134.1, bt134.2.1, bt134.2.2))) else (fastjson_validateKey.l0 k x0 x7 (wrap64 (x8 + 1))))) else (none)) else (none)) else ((errors_New.f (⟨#[109, 105, 115, 115, 105, 110, 103, 32, 99, 108, 111, 115, 105, 110, 103]⟩ : ByteArray)).bind fun t133 => (some ((⟨#[]⟩ : ByteArray), x0, t133)))
def fastjson_validateKey.f (k : Nat) (a0 : ByteArray) : Option (ByteArray × ByteArray × Option Int) := fastjson_validateKey.l0 k a0 (a0.size : Int) 0
theorem fastjson_validateKey.mono_l : ∀ k, (∀ y0 y1 y2, LeO (fastjson_validateKey.l0 k y0 y1 y2) (fastjson_validateKey.l0 (k + 1) y0 y1 y2))
  | 0 => fun _ _ _ r h => by simp [fastjson_validateKey.l0] at h
  | k + 1 => by
    have ih0 := fastjson_validateKey.mono_l k
    · intro y0 y1 y2
      unfold fastjson_validateKey.l0
      repeat' first
      | (with_reducible exact ih0 _ _ _)
      | (with_reducible exact fastjson_validateString.mono _ _)
      | (with_reducible exact LeO.refl _)
      | (with_reducible exact LeO.none _)
      | (with_reducible refine LeO.ite ?_ ?_)
      | (with_reducible refine LeO.bind ?_ (fun _ => ?_))
      | exact ih0 _ _ _
      | exact fastjson_validateString.mono _ _
      | exact LeO.none _
      | refine LeO.ite ?_ ?_
      | refine LeO.bind ?_ (fun _ => ?_)
theorem fastjson_validateKey.mono : ∀ a0 k, LeO (fastjson_validateKey.f k a0) (fastjson_validateKey.f (k + 1) a0) := by
  intro a0 k
  have ih0 := fastjson_validateKey.mono_l k
  unfold fastjson_validateKey.f
  repeat' first
      | (with_reducible exact ih0 _ _ _)
      | (with_reducible exact fastjson_validateString.mono _ _)
      | (with_reducible exact LeO.refl _)
      | (with_reducible exact LeO.none _)
      | (with_reducible refine LeO.ite ?_ ?_)
      | (with_reducible refine LeO.bind ?_ (fun _ => ?_))
      | exact ih0 _ _ _
      | exact fastjson_validateString.mono _ _
      | exact LeO.none _
      | refine LeO.ite ?_ ?_
      | refine LeO.bind ?_ (fun _ => ?_)
set_option maxHeartbeats 8000000 in
set_option maxRecDepth 100000 in
theorem fastjson_validateKey.calls (k : Nat) (a0 : ByteArray) (r1 : ByteArray) (r2 : ByteArray) (r3 : Option Int) (w : World) (hT6 : Kd.C Kd.errk w (some ⟨6, 0, none⟩) tabG6.length tabG6) (hT7 : Kd.C Kd.errk w (some ⟨7, 0, none⟩) tabG7.length tabG7) (h : fastjson_validateKey.f k a0 = some (r1, r2, r3)) :
    Calls Tryd.prog 67 #[.string a0] w fun e w' => ∃ (et2_ : Nat) (ep2_ : Value), e = .returned (.tuple #[.string r1, .string r2, errX et2_ ep2_ r3]) ∧ Below w.heap.size w w' := by
  have HRG6 := Aside0.mk hT6
  clear hT6
  have HRG7 := Aside0.mk hT7
  clear hT7
  have HB := Aside0.mk (Below.refl w.heap.size w)
  have H : (fastjson_validateKey.l0 k a0 (a0.size : Int) 0) = some (r1, r2, r3) := h
  clear h
  have H' := Aside0.mk H
  clear H
  go_enter Tryd.func67, Tryd.ntmps67
  go_wp2
  repeat (go_quiet (fail); try go_wp2)
  try simp only [Act.put, List.setIfInBounds_toArray, List.set_cons_succ, List.set_cons_zero]
  go_loopg [8] k (fun kq v8 w' => ∃ (x8_1 : Int), v8 = .int .i64 x8_1 ∧ Aside0 (fastjson_validateKey.l0 kq a0 (a0.size : Int) x8_1 = some (r1, r2, r3)) ∧ Aside0 (kq ≤ k) ∧ Aside0 (Below w.heap.size w w'))
  case atStart => exact ⟨(0), (by first | rfl | (simp; done) | (simp [*]; done)), H', ⟨Nat.le_refl _⟩, ⟨by repeat (first | (with_reducible first | exact HB.out | apply below_alloc | apply pw_below_drewN | apply below_drew1) | exact HB.out)⟩⟩
  case round =>
    clear H'
    obtain ⟨x8_1, rfl, HA, HK1, HB⟩ := hrel
    cases gk with
    | zero => exact absurd HA.out (by simp [fastjson_validateKey.l0])
    | succ k1 =>
      have H := HA.out
      clear HA
      simp only [fastjson_validateKey.l0] at H
      by_cases c2 : x8_1 < (a0.size : Int)
      · rw [if_pos c2] at H
        have c2b0 : decide (x8_1 < (a0.size : Int)) = true := decide_eq_true c2
        clear c2
        by_cases c3 : 0 ≤ x8_1
        · rw [if_pos c3] at H
          have c3b0 : decide (0 ≤ x8_1) = true := decide_eq_true c3
          clear c3
          by_cases c4 : x8_1 < (a0.size : Int)
          · rw [if_pos c4] at H
            have c4b0 : decide (x8_1 < (a0.size : Int)) = true := decide_eq_true c4
            clear c4
            by_cases c6 : (bt a0 x8_1) = 34
            · rw [if_pos c6] at H
              have c6b0 : ((bt a0 x8_1) == 34) = true := beq_iff_eq.mpr c6
              have c6b1 : ((bt a0 x8_1) != 34) = false := bne_eq_false_iff_eq.mpr c6
              clear c6
              have c7b0 := eq_true (of_decide_eq_true (by first | (with_reducible assumption) | assumption) : 0 ≤ x8_1)
              by_cases c8 : x8_1 ≤ (a0.size : Int)
              · rw [if_pos c8] at H
                have c8b0 := eq_true c8
                have c8b1 : decide (x8_1 ≤ (a0.size : Int)) = true := decide_eq_true c8
                clear c8
                obtain ⟨ji9, hji9⟩ : ∃ j_ : Int, (wrap64 (x8_1 + 1)) = j_ := ⟨_, rfl⟩
                replace H : (if 0 ≤ (ji9) then (if (ji9) ≤ (a0.size : Int) then (some (a0.extract 0 (x8_1 : Int).toNat, a0.extract ((ji9) : Int).toNat a0.size, none)) else (none)) else (none)) = some (r1, r2, r3) := by first | (rw [hji9] at H; exact H) | (simp only [hji9] at H ⊢; exact H)
                have hji9w : (IntKind.i64.wrap (x8_1 + 1)) = ji9 := (i64_w _).trans hji9
                by_cases c10 : 0 ≤ (ji9)
                · rw [if_pos c10] at H
                  have c10b0 := eq_true c10
                  have c10b1 : decide (0 ≤ (ji9)) = true := decide_eq_true c10
                  clear c10
                  by_cases c11 : (ji9) ≤ (a0.size : Int)
                  · rw [if_pos c11] at H
                    have c11b0 := eq_true c11
                    have c11b1 : decide ((ji9) ≤ (a0.size : Int)) = true := decide_eq_true c11
                    clear c11
                    simp only [Option.some.injEq, Prod.mk.injEq] at H
                    obtain ⟨rfl, rfl, rfl⟩ := H
                    have p5 : 0 ≤ (x8_1 : Int) := of_decide_eq_true (by first | (with_reducible assumption) | assumption)
                    have q5 : x8_1 < (a0.size : Int) := of_decide_eq_true (by first | (with_reducible assumption) | assumption)
                    have hx5 := bt_at a0 x8_1
                    replace p5 := eq_true p5
                    replace q5 := eq_true q5
                    try have hcs12 := fun W_ : World => run_slice_string_h (P := Tryd.prog) W_ 9 a0 Tryd.underlying9 .i64 x8_1 (of_decide_eq_true (by first | (with_reducible assumption) | assumption)) (of_decide_eq_true (by first | (with_reducible assumption) | assumption))
                    try have hcs13 := fun W_ : World => run_slice_string_l (P := Tryd.prog) W_ 9 a0 Tryd.underlying9 .i64 (ji9) (of_decide_eq_true (by first | (with_reducible assumption) | assumption)) (of_decide_eq_true (by first | (with_reducible assumption) | assumption))
                    go_wp2
                    repeat (go_quiet (fail); try go_wp2)
                    go_ret3
                    exact ⟨0, .nilIface, by first | rfl | (simp [errW_none, errW_some] <;> rfl) | (simp only [← hji9]; first | rfl | (simp [errW_none, errW_some] <;> rfl)) | (simp [*, errW_none, errW_some] <;> rfl), by repeat (first | (with_reducible first | exact HB.out | apply below_alloc | apply pw_below_drewN | apply below_drew1) | exact HB.out)⟩
                  · rw [if_neg c11] at H
                    exact absurd H (by simp)
                · rw [if_neg c10] at H
                  exact absurd H (by simp)
              · rw [if_neg c8] at H
                exact absurd H (by simp)
            · rw [if_neg c6] at H
              have c6b0 : ((bt a0 x8_1) == 34) = false := beq_eq_false_iff_ne.mpr c6
              have c6b1 : ((bt a0 x8_1) != 34) = true := bne_iff_ne.mpr c6
              by_cases c15 : (bt a0 x8_1) = 92
              · rw [if_pos c15] at H
                have c15b0 : ((bt a0 x8_1) == 92) = true := beq_iff_eq.mpr c15
                have c15b1 : ((bt a0 x8_1) != 92) = false := bne_eq_false_iff_eq.mpr c15
                clear c15
                replace H := Option.bind_eq_some_iff.mp H
                obtain ⟨⟨t134, t135, t136⟩, A160, H⟩ := H
                replace H : (some (t134, t135, t136)) = some (r1, r2, r3) := H
                have A16 := Aside0.mk A160
                clear A160
                simp only [Option.some.injEq, Prod.mk.injEq] at H
                obtain ⟨rfl, rfl, rfl⟩ := H
                have p5 : 0 ≤ (x8_1 : Int) := of_decide_eq_true (by first | (with_reducible assumption) | assumption)
                have q5 : x8_1 < (a0.size : Int) := of_decide_eq_true (by first | (with_reducible assumption) | assumption)
                have hx5 := bt_at a0 x8_1
                replace p5 := eq_true p5
                replace q5 := eq_true q5
                have p14 : 0 ≤ (x8_1 : Int) := of_decide_eq_true (by first | (with_reducible assumption) | assumption)
                have q14 : x8_1 < (a0.size : Int) := of_decide_eq_true (by first | (with_reducible assumption) | assumption)
                have hx14 := bt_at a0 x8_1
                replace p14 := eq_true p14
                replace q14 := eq_true q14
                go_wp2_with (first | (go_at_call 80; (with_reducible refine (fastjson_validateString.calls k1 a0 t134 t135 t136 _ ?side1 ?side2 A16.out).mono ?_); (case side1 => repeat (first | exact Kd.C_below HRG6.out (by repeat (first | (with_reducible first | exact HB.out | apply below_alloc | apply pw_below_drewN | apply below_drew1) | exact HB.out)) | exact HRG6.out | (with_reducible refine Kd.C_alloc ?_ _) | (with_reducible refine Kd.C_drewN ?_ _) | (with_reducible refine Kd.C_drew ?_))); (case side2 => repeat (first | exact Kd.C_below HRG7.out (by repeat (first | (with_reducible first | exact HB.out | apply below_alloc | apply pw_below_drewN | apply below_drew1) | exact HB.out)) | exact HRG7.out | (with_reducible refine Kd.C_alloc ?_ _) | (with_reducible refine Kd.C_drewN ?_ _) | (with_reducible refine Kd.C_drew ?_))); rintro e w17 ⟨et_A16_2, ep_A16_2, rfl, hb⟩; have n0_ := Aside0.mk (below_step (by repeat (first | (with_reducible first | exact HB.out | apply below_alloc | apply pw_below_drewN | apply below_drew1) | exact HB.out)) hb); clear HB; have HB := n0_; clear n0_; (try clear hb); (try clear hb2); (try clear hk); (try clear hi); (try simp only [errW_none, errW_some, errX_none, errX_some])))
                repeat (go_quiet (first | (go_at_call 80; (with_reducible refine (fastjson_validateString.calls k1 a0 t134 t135 t136 _ ?side1 ?side2 A16.out).mono ?_); (case side1 => repeat (first | exact Kd.C_below HRG6.out (by repeat (first | (with_reducible first | exact HB.out | apply below_alloc | apply pw_below_drewN | apply below_drew1) | exact HB.out)) | exact HRG6.out | (with_reducible refine Kd.C_alloc ?_ _) | (with_reducible refine Kd.C_drewN ?_ _) | (with_reducible refine Kd.C_drew ?_))); (case side2 => repeat (first | exact Kd.C_below HRG7.out (by repeat (first | (with_reducible first | exact HB.out | apply below_alloc | apply pw_below_drewN | apply below_drew1) | exact HB.out)) | exact HRG7.out | (with_reducible refine Kd.C_alloc ?_ _) | (with_reducible refine Kd.C_drewN ?_ _) | (with_reducible refine Kd.C_drew ?_))); rintro e w17 ⟨et_A16_2, ep_A16_2, rfl, hb⟩; have n0_ := Aside0.mk (below_step (by repeat (first | (with_reducible first | exact HB.out | apply below_alloc | apply pw_below_drewN | apply below_drew1) | exact HB.out)) hb); clear HB; have HB := n0_; clear n0_; (try clear hb); (try clear hb2); (try clear hk); (try clear hi); (try simp only [errW_none, errW_some, errX_none, errX_some]))); try go_wp2_with (first | (go_at_call 80; (with_reducible refine (fastjson_validateString.calls k1 a0 t134 t135 t136 _ ?side1 ?side2 A16.out).mono ?_); (case side1 => repeat (first | exact Kd.C_below HRG6.out (by repeat (first | (with_reducible first | exact HB.out | apply below_alloc | apply pw_below_drewN | apply below_drew1) | exact HB.out)) | exact HRG6.out | (with_reducible refine Kd.C_alloc ?_ _) | (with_reducible refine Kd.C_drewN ?_ _) | (with_reducible refine Kd.C_drew ?_))); (case side2 => repeat (first | exact Kd.C_below HRG7.out (by repeat (first | (with_reducible first | exact HB.out | apply below_alloc | apply pw_below_drewN | apply below_drew1) | exact HB.out)) | exact HRG7.out | (with_reducible refine Kd.C_alloc ?_ _) | (with_reducible refine Kd.C_drewN ?_ _) | (with_reducible refine Kd.C_drew ?_))); rintro e w17 ⟨et_A16_2, ep_A16_2, rfl, hb⟩; have n0_ := Aside0.mk (below_step (by repeat (first | (with_reducible first | exact HB.out | apply below_alloc | apply pw_below_drewN | apply below_drew1) | exact HB.out)) hb); clear HB; have HB := n0_; clear n0_; (try clear hb); (try clear hb2); (try clear hk); (try clear hi); (try simp only [errW_none, errW_some, errX_none, errX_some]))))
                go_ret3
                exact ⟨et_A16_2, ep_A16_2, by first | rfl | (simp [errW_none, errW_some] <;> rfl) | (simp [*, errW_none, errW_some] <;> rfl), by repeat (first | (with_reducible first | exact HB.out | apply below_alloc | apply pw_below_drewN | apply below_drew1) | exact HB.out)⟩
              · rw [if_neg c15] at H
                have c15b0 : ((bt a0 x8_1) == 92) = false := beq_eq_false_iff_ne.mpr c15
                have c15b1 : ((bt a0 x8_1) != 92) = true := bne_iff_ne.mpr c15
                have H' := Aside0.mk H
                clear H
                have p5 : 0 ≤ (x8_1 : Int) := of_decide_eq_true (by first | (with_reducible assumption) | assumption)
                have q5 : x8_1 < (a0.size : Int) := of_decide_eq_true (by first | (with_reducible assumption) | assumption)
                have hx5 := bt_at a0 x8_1
                replace p5 := eq_true p5
                replace q5 := eq_true q5
                have p14 : 0 ≤ (x8_1 : Int) := of_decide_eq_true (by first | (with_reducible assumption) | assumption)
                have q14 : x8_1 < (a0.size : Int) := of_decide_eq_true (by first | (with_reducible assumption) | assumption)
                have hx14 := bt_at a0 x8_1
                replace p14 := eq_true p14
                replace q14 := eq_true q14
                go_wp2
                repeat (go_quiet (fail); try go_wp2)
                go_roundg k1
                case measure => have := HK1.out; omega
                case rel => exact ⟨(wrap64 (x8_1 + 1)), (by first | rfl | (simp; done) | (simp [*]; done)), H', ⟨by have := HK1.out; omega⟩, ⟨by repeat (first | (with_reducible first | exact HB.out | apply below_alloc | apply pw_below_drewN | apply below_drew1) | exact HB.out)⟩⟩
          · rw [if_neg c4] at H
            exact absurd H (by simp)
        · rw [if_neg c3] at H
          exact absurd H (by simp)
      · rw [if_neg c2] at H
        have c2b0 : decide (x8_1 < (a0.size : Int)) = false := decide_eq_false c2
        clear c2
        replace H := Option.bind_eq_some_iff.mp H
        obtain ⟨t133, A180, H⟩ := H
        replace H : (some ((⟨#[]⟩ : ByteArray), a0, t133)) = some (r1, r2, r3) := H
        have A18 := Aside0.mk A180
        clear A180
        simp only [Option.some.injEq, Prod.mk.injEq] at H
        obtain ⟨rfl, rfl, rfl⟩ := H
        go_wp2_with (first | (go_at_call 81; (with_reducible refine (errors_New.calls (⟨#[109, 105, 115, 115, 105, 110, 103, 32, 99, 108, 111, 115, 105, 110, 103]⟩ : ByteArray) t133 _ A18.out).mono ?_); rintro e w19 ⟨et_A18_0, ep_A18_0, rfl, hb⟩; have n0_ := Aside0.mk (below_step (by repeat (first | (with_reducible first | exact HB.out | apply below_alloc | apply pw_below_drewN | apply below_drew1) | exact HB.out)) hb); clear HB; have HB := n0_; clear n0_; (try clear hb); (try clear hb2); (try clear hk); (try clear hi); (try simp only [errW_none, errW_some, errX_none, errX_some])))
        repeat (go_quiet (first | (go_at_call 81; (with_reducible refine (errors_New.calls (⟨#[109, 105, 115, 115, 105, 110, 103, 32, 99, 108, 111, 115, 105, 110, 103]⟩ : ByteArray) t133 _ A18.out).mono ?_); rintro e w19 ⟨et_A18_0, ep_A18_0, rfl, hb⟩; have n0_ := Aside0.mk (below_step (by repeat (first | (with_reducible first | exact HB.out | apply below_alloc | apply pw_below_drewN | apply below_drew1) | exact HB.out)) hb); clear HB; have HB := n0_; clear n0_; (try clear hb); (try clear hb2); (try clear hk); (try clear hi); (try simp only [errW_none, errW_some, errX_none, errX_some]))); try go_wp2_with (first | (go_at_call 81; (with_reducible refine (errors_New.calls (⟨#[109, 105, 115, 115, 105, 110, 103, 32, 99, 108, 111, 115, 105, 110, 103]⟩ : ByteArray) t133 _ A18.out).mono ?_); rintro e w19 ⟨et_A18_0, ep_A18_0, rfl, hb⟩; have n0_ := Aside0.mk (below_step (by repeat (first | (with_reducible first | exact HB.out | apply below_alloc | apply pw_below_drewN | apply below_drew1) | exact HB.out)) hb); clear HB; have HB := n0_; clear n0_; (try clear hb); (try clear hb2); (try clear hk); (try clear hi); (try simp only [errW_none, errW_some, errX_none, errX_some]))))
        go_ret3
        exact ⟨et_A18_0, ep_A18_0, by first | rfl | (simp [errW_none, errW_some] <;> rfl) | (simp [*, errW_none, errW_some] <;> rfl), by repeat (first | (with_reducible first | exact HB.out | apply below_alloc | apply pw_below_drewN | apply below_drew1) | exact HB.out)⟩

end Go.Proofs.YtfpbbnllaogclaaDoor.PG
