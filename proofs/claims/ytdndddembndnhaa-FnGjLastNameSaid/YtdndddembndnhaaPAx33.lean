-- Written by a program of this session out of the translation (a changed copy of the kit's print); Lean checks it.
import Derived.Test.YtdndddembndnhaaPAx0
namespace Go.Proofs.Ytdndddembndnhaa.PA
open Go.RowKit Go.Proofs.YtdndddembndnhaaW.PrintWords Go.Proofs.YtdndddembndnhaaW.PrintLast Go.Proofs.YtdndddembndnhaaW.PrintMore
attribute [local go_sem] max2_int min2_int max_two min_two max_three min_three max_four min_four   -- for this text's walks alone
set_option linter.unusedVariables false
set_option linter.unusedSimpArgs false

/-! ### gjson_nameOfLast: function 36 -/
mutual
def gjson_nameOfLast.l0 : Nat → ByteArray → Int → Option (ByteArray)
  | 0, _, _ => none
  | k + 1, x0, x3 => if x3 ≥ 0 then (if 0 ≤ x3 then (if x3 < (x0.size : Int) then (if (bt x0 x3) = 124 then (gjson_nameOfLast.j1 k x0 x3 true) else (gjson_nameOfLast.j1 k x0 x3 ((bt x0 x3) == 46))) else (none)) else (none)) else (some x0)
def gjson_nameOfLast.j1 : Nat → ByteArray → Int → Bool → Option (ByteArray)
  | 0, _, _, _ => none
  | k + 1, x0, x3, x20 => if x20 = true then (if x3 > 0 then (if 0 ≤ (wrap64 (x3 - 1)) then (if (wrap64 (x3 - 1)) < (x0.size : Int) then (if (bt x0 (wrap64 (x3 - 1))) = 92 then (gjson_nameOfLast.l0 k x0 (wrap64 (x3 - 1))) else (if 0 ≤ (wrap64 (x3 + 1)) then (if (wrap64 (x3 + 1)) ≤ (x0.size : Int) then (some (x0.extract ((wrap64 (x3 + 1)) : Int).toNat x0.size)) else (none)) else (none))) else (none)) else (none)) else (if 0 ≤ (wrap64 (x3 + 1)) then (if (wrap64 (x3 + 1)) ≤ (x0.size : Int) then (some (x0.extract ((wrap64 (x3 + 1)) : Int).toNat x0.size)) else (none)) else (none))) else (gjson_nameOfLast.l0 k x0 (wrap64 (x3 - 1)))
end
def gjson_nameOfLast.f (k : Nat) (a0 : ByteArray) : Option (ByteArray) := gjson_nameOfLast.l0 k a0 (wrap64 ((a0.size : Int) - 1))
theorem gjson_nameOfLast.mono_l : ∀ k, (∀ y0 y1, LeO (gjson_nameOfLast.l0 k y0 y1) (gjson_nameOfLast.l0 (k + 1) y0 y1)) ∧ (∀ y0 y1 y2, LeO (gjson_nameOfLast.j1 k y0 y1 y2) (gjson_nameOfLast.j1 (k + 1) y0 y1 y2))
  | 0 => ⟨fun _ _ r h => by simp [gjson_nameOfLast.l0] at h, fun _ _ _ r h => by simp [gjson_nameOfLast.j1] at h⟩
  | k + 1 => by
    obtain ⟨ih0, ih1⟩ := gjson_nameOfLast.mono_l k
    refine ⟨?_, ?_⟩
    · intro y0 y1
      unfold gjson_nameOfLast.l0
      repeat' first
      | (with_reducible exact ih0 _ _)
      | (with_reducible exact ih1 _ _ _)
      | (with_reducible exact LeO.refl _)
      | (with_reducible exact LeO.none _)
      | (with_reducible refine LeO.ite ?_ ?_)
      | (with_reducible refine LeO.bind ?_ (fun _ => ?_))
      | exact ih0 _ _
      | exact ih1 _ _ _
      | exact LeO.none _
      | refine LeO.ite ?_ ?_
      | refine LeO.bind ?_ (fun _ => ?_)
    · intro y0 y1 y2
      unfold gjson_nameOfLast.j1
      repeat' first
      | (with_reducible exact ih0 _ _)
      | (with_reducible exact ih1 _ _ _)
      | (with_reducible exact LeO.refl _)
      | (with_reducible exact LeO.none _)
      | (with_reducible refine LeO.ite ?_ ?_)
      | (with_reducible refine LeO.bind ?_ (fun _ => ?_))
      | exact ih0 _ _
      | exact ih1 _ _ _
      | exact LeO.none _
      | refine LeO.ite ?_ ?_
      | refine LeO.bind ?_ (fun _ => ?_)
theorem gjson_nameOfLast.mono : ∀ a0 k, LeO (gjson_nameOfLast.f k a0) (gjson_nameOfLast.f (k + 1) a0) := by
  intro a0 k
  obtain ⟨ih0, ih1⟩ := gjson_nameOfLast.mono_l k
  unfold gjson_nameOfLast.f
  repeat' first
      | (with_reducible exact ih0 _ _)
      | (with_reducible exact ih1 _ _ _)
      | (with_reducible exact LeO.refl _)
      | (with_reducible exact LeO.none _)
      | (with_reducible refine LeO.ite ?_ ?_)
      | (with_reducible refine LeO.bind ?_ (fun _ => ?_))
      | exact ih0 _ _
      | exact ih1 _ _ _
      | exact LeO.none _
      | refine LeO.ite ?_ ?_
      | refine LeO.bind ?_ (fun _ => ?_)
set_option maxHeartbeats 8000000 in
set_option maxRecDepth 100000 in
theorem gjson_nameOfLast.calls (k : Nat) (a0 : ByteArray) (r : ByteArray) (w : World) (h : gjson_nameOfLast.f k a0 = some r) :
    Calls Try.prog 36 #[.string a0] w fun e w' => e = .returned (.string r) ∧ Drawn0 w w' := by
  have H : (gjson_nameOfLast.l0 k a0 (wrap64 ((a0.size : Int) - 1))) = some r := h
  clear h
  have H' := Aside0.mk H
  clear H
  go_enter Try.func36, Try.ntmps36
  go_wp2
  try simp only [Act.put, List.setIfInBounds_toArray, List.set_cons_succ, List.set_cons_zero]
  go_loopg [3] k (fun kq v3 w' => ∃ (x3_1 : Int), v3 = .int .i64 x3_1 ∧ Aside0 (gjson_nameOfLast.l0 kq a0 x3_1 = some r) ∧ Aside0 (kq ≤ k) ∧ Drawn0 w w')
  case atStart => exact ⟨(wrap64 ((a0.size : Int) - 1)), (by first | rfl | (simp; done) | (simp [*]; done)), H', ⟨Nat.le_refl _⟩, by repeat (first | exact Drawn0.refl _ | apply Drawn0.step)⟩
  case round =>
    clear H'
    obtain ⟨x3_1, rfl, HA, HK1, ⟨m1, rfl⟩⟩ := hrel
    cases gk with
    | zero => exact absurd HA.out (by simp [gjson_nameOfLast.l0])
    | succ k1 =>
      have H := HA.out
      clear HA
      simp only [gjson_nameOfLast.l0] at H
      by_cases c2 : x3_1 ≥ 0
      · rw [if_pos c2] at H
        have c2b0 : decide (0 ≤ x3_1) = true := decide_eq_true c2
        clear c2
        have HC3 := Aside0.mk H
        clear H
        go_upto_region 4 with (fail)
        go_cut [20] (fun v20 wc => ∃ (kq : Nat) (x20_2 : Bool), v20 = .bool x20_2 ∧ Aside0 (gjson_nameOfLast.j1 kq a0 x3_1 x20_2 = some r) ∧ Aside0 (kq ≤ k1) ∧ Drawn0 w wc)
        case first =>
          have H := HC3.out
          clear HC3
          by_cases c4 : 0 ≤ x3_1
          · rw [if_pos c4] at H
            have c4b0 : decide (0 ≤ x3_1) = true := decide_eq_true c4
            clear c4
            (first | rw [c4b0] | (simp only [i64_w, i32_w]; rw [c4b0]) | skip)
            by_cases c5 : x3_1 < (a0.size : Int)
            · rw [if_pos c5] at H
              have c5b0 : decide (x3_1 < (a0.size : Int)) = true := decide_eq_true c5
              clear c5
              by_cases c7 : (bt a0 x3_1) = 124
              · rw [if_pos c7] at H
                have c7b0 : ((bt a0 x3_1) == 124) = true := beq_iff_eq.mpr c7
                have c7b1 : ((bt a0 x3_1) != 124) = false := bne_eq_false_iff_eq.mpr c7
                clear c7
                have H' := Aside0.mk H
                clear H
                have p6 : 0 ≤ (x3_1 : Int) := of_decide_eq_true (by first | (with_reducible assumption) | assumption)
                have q6 : x3_1 < (a0.size : Int) := of_decide_eq_true (by first | (with_reducible assumption) | assumption)
                have hx6 := bt_at a0 x3_1
                replace p6 := eq_true p6
                replace q6 := eq_true q6
                go_wp2
                go_meet
                case rel => exact ⟨_, (true), (by first | rfl | (simp; done) | (simp [*]; done)), H', ⟨by have := HK1.out; first | omega | exact Nat.le_refl _⟩, by repeat (first | exact Drawn0.refl _ | apply Drawn0.step)⟩
              · rw [if_neg c7] at H
                have c7b0 : ((bt a0 x3_1) == 124) = false := beq_eq_false_iff_ne.mpr c7
                have c7b1 : ((bt a0 x3_1) != 124) = true := bne_iff_ne.mpr c7
                have H' := Aside0.mk H
                clear H
                have p6 : 0 ≤ (x3_1 : Int) := of_decide_eq_true (by first | (with_reducible assumption) | assumption)
                have q6 : x3_1 < (a0.size : Int) := of_decide_eq_true (by first | (with_reducible assumption) | assumption)
                have hx6 := bt_at a0 x3_1
                replace p6 := eq_true p6
                replace q6 := eq_true q6
                have p8 : 0 ≤ (x3_1 : Int) := of_decide_eq_true (by first | (with_reducible assumption) | assumption)
                have q8 : x3_1 < (a0.size : Int) := of_decide_eq_true (by first | (with_reducible assumption) | assumption)
                have hx8 := bt_at a0 x3_1
                replace p8 := eq_true p8
                replace q8 := eq_true q8
                go_wp2
                go_meet
                case rel => exact ⟨_, (((bt a0 x3_1) == 46)), (by first | rfl | (simp; done) | (simp [*]; done)), H', ⟨by have := HK1.out; first | omega | exact Nat.le_refl _⟩, by repeat (first | exact Drawn0.refl _ | apply Drawn0.step)⟩
            · rw [if_neg c5] at H
              exact absurd H (by simp)
          · rw [if_neg c4] at H
            exact absurd H (by simp)
        case rest =>
          clear HC3
          try clear c2
          try clear c2b0
          try clear p2
          try clear c3
          try clear c4
          try clear c4b0
          try clear c5
          try clear c5b0
          try clear p6
          try clear q6
          try clear hx6
          try clear c7
          try clear c7b0
          try clear c7b1
          try clear p8
          try clear q8
          try clear hx8
          try clear p6
          try clear p8
          try clear q6
          try clear q8
          obtain ⟨kq, x20_2, rfl, HA, HJ2, ⟨mc2, rfl⟩⟩ := hcut
          cases kq with
          | zero => exact absurd HA.out (by simp [gjson_nameOfLast.j1])
          | succ kj2 =>
            have H := HA.out
            clear HA
            simp only [gjson_nameOfLast.j1] at H
            by_cases c9 : x20_2 = true
            · subst c9
              have H1 : (if x3_1 > 0 then (if 0 ≤ (wrap64 (x3_1 - 1)) then (if (wrap64 (x3_1 - 1)) < (a0.size : Int) then (if (bt a0 (wrap64 (x3_1 - 1))) = 92 then (gjson_nameOfLast.l0 kj2 a0 (wrap64 (x3_1 - 1))) else (if 0 ≤ (wrap64 (x3_1 + 1)) then (if (wrap64 (x3_1 + 1)) ≤ (a0.size : Int) then (some (a0.extract ((wrap64 (x3_1 + 1)) : Int).toNat a0.size)) else (none)) else (none))) else (none)) else (none)) else (if 0 ≤ (wrap64 (x3_1 + 1)) then (if (wrap64 (x3_1 + 1)) ≤ (a0.size : Int) then (some (a0.extract ((wrap64 (x3_1 + 1)) : Int).toNat a0.size)) else (none)) else (none))) = some r := by rw [if_pos rfl] at H; exact H
              clear H
              have H := H1
              clear H1
              by_cases c10 : x3_1 > 0
              · rw [if_pos c10] at H
                have c10b0 : decide (0 < x3_1) = true := decide_eq_true c10
                clear c10
                obtain ⟨ji11, hji11⟩ : ∃ j_ : Int, (wrap64 (x3_1 - 1)) = j_ := ⟨_, rfl⟩
                replace H : (if 0 ≤ (ji11) then (if (ji11) < (a0.size : Int) then (if (bt a0 (ji11)) = 92 then (gjson_nameOfLast.l0 kj2 a0 ji11) else (if 0 ≤ (wrap64 (x3_1 + 1)) then (if (wrap64 (x3_1 + 1)) ≤ (a0.size : Int) then (some (a0.extract ((wrap64 (x3_1 + 1)) : Int).toNat a0.size)) else (none)) else (none))) else (none)) else (none)) = some r := by first | (rw [hji11] at H; exact H) | (simp only [hji11] at H ⊢; exact H)
                have hji11w : (IntKind.i64.wrap (x3_1 - 1)) = ji11 := (i64_w _).trans hji11
                by_cases c12 : 0 ≤ (ji11)
                · rw [if_pos c12] at H
                  have c12b0 : decide (0 ≤ (ji11)) = true := decide_eq_true c12
                  clear c12
                  by_cases c13 : (ji11) < (a0.size : Int)
                  · rw [if_pos c13] at H
                    have c13b0 : decide ((ji11) < (a0.size : Int)) = true := decide_eq_true c13
                    clear c13
                    by_cases c15 : (bt a0 (ji11)) = 92
                    · rw [if_pos c15] at H
                      have c15b0 : ((bt a0 (ji11)) == 92) = true := beq_iff_eq.mpr c15
                      have c15b1 : ((bt a0 (ji11)) != 92) = false := bne_eq_false_iff_eq.mpr c15
                      clear c15
                      have H' := Aside0.mk H
                      clear H
                      have p14 : 0 ≤ ((ji11) : Int) := of_decide_eq_true (by first | (with_reducible assumption) | assumption)
                      have q14 : (ji11) < (a0.size : Int) := of_decide_eq_true (by first | (with_reducible assumption) | assumption)
                      have hx14 := bt_at a0 (ji11)
                      replace p14 := eq_true p14
                      replace q14 := eq_true q14
                      go_wp2
                      go_roundg kj2
                      case measure => have := HK1.out; have := HJ2.out; omega
                      case rel => exact ⟨(ji11), (by first | rfl | (simp; done) | (simp only [← hji11] <;> (first | rfl | (simp; done))) | (simp [*]; done)), H', ⟨by have := HK1.out; have := HJ2.out; omega⟩, by repeat (first | exact Drawn0.refl _ | apply Drawn0.step)⟩
                    · rw [if_neg c15] at H
                      have c15b0 : ((bt a0 (ji11)) == 92) = false := beq_eq_false_iff_ne.mpr c15
                      have c15b1 : ((bt a0 (ji11)) != 92) = true := bne_iff_ne.mpr c15
                      obtain ⟨ji16, hji16⟩ : ∃ j_ : Int, (wrap64 (x3_1 + 1)) = j_ := ⟨_, rfl⟩
                      replace H : (if 0 ≤ (ji16) then (if (ji16) ≤ (a0.size : Int) then (some (a0.extract ((ji16) : Int).toNat a0.size)) else (none)) else (none)) = some r := by first | (rw [hji16] at H; exact H) | (simp only [hji16] at H ⊢; exact H)
                      have hji16w : (IntKind.i64.wrap (x3_1 + 1)) = ji16 := (i64_w _).trans hji16
                      by_cases c17 : 0 ≤ (ji16)
                      · rw [if_pos c17] at H
                        have c17b0 := eq_true c17
                        have c17b1 : decide (0 ≤ (ji16)) = true := decide_eq_true c17
                        clear c17
                        by_cases c18 : (ji16) ≤ (a0.size : Int)
                        · rw [if_pos c18] at H
                          have c18b0 := eq_true c18
                          have c18b1 : decide ((ji16) ≤ (a0.size : Int)) = true := decide_eq_true c18
                          clear c18
                          obtain rfl := Option.some.inj H
                          have p14 : 0 ≤ ((ji11) : Int) := of_decide_eq_true (by first | (with_reducible assumption) | assumption)
                          have q14 : (ji11) < (a0.size : Int) := of_decide_eq_true (by first | (with_reducible assumption) | assumption)
                          have hx14 := bt_at a0 (ji11)
                          replace p14 := eq_true p14
                          replace q14 := eq_true q14
                          go_wp2
                          go_ret
                          exact ⟨by first | rfl | (simp; done) | (simp only [← hji11, ← hji16] <;> (first | rfl | (simp; done))) | (simp [*]; done), by repeat (first | exact Drawn0.refl _ | apply Drawn0.step)⟩
                        · rw [if_neg c18] at H
                          exact absurd H (by simp)
                      · rw [if_neg c17] at H
                        exact absurd H (by simp)
                  · rw [if_neg c13] at H
                    exact absurd H (by simp)
                · rw [if_neg c12] at H
                  exact absurd H (by simp)
              · rw [if_neg c10] at H
                have c10b0 : decide (0 < x3_1) = false := decide_eq_false c10
                clear c10
                obtain ⟨ji19, hji19⟩ : ∃ j_ : Int, (wrap64 (x3_1 + 1)) = j_ := ⟨_, rfl⟩
                replace H : (if 0 ≤ (ji19) then (if (ji19) ≤ (a0.size : Int) then (some (a0.extract ((ji19) : Int).toNat a0.size)) else (none)) else (none)) = some r := by first | (rw [hji19] at H; exact H) | (simp only [hji19] at H ⊢; exact H)
                have hji19w : (IntKind.i64.wrap (x3_1 + 1)) = ji19 := (i64_w _).trans hji19
                by_cases c20 : 0 ≤ (ji19)
                · rw [if_pos c20] at H
                  have c20b0 := eq_true c20
                  have c20b1 : decide (0 ≤ (ji19)) = true := decide_eq_true c20
                  clear c20
                  by_cases c21 : (ji19) ≤ (a0.size : Int)
                  · rw [if_pos c21] at H
                    have c21b0 := eq_true c21
                    have c21b1 : decide ((ji19) ≤ (a0.size : Int)) = true := decide_eq_true c21
                    clear c21
                    obtain rfl := Option.some.inj H
                    go_wp2
                    go_ret
                    exact ⟨by first | rfl | (simp; done) | (simp only [← hji19] <;> (first | rfl | (simp; done))) | (simp [*]; done), by repeat (first | exact Drawn0.refl _ | apply Drawn0.step)⟩
                  · rw [if_neg c21] at H
                    exact absurd H (by simp)
                · rw [if_neg c20] at H
                  exact absurd H (by simp)
            · replace c9 := Bool.eq_false_iff.mpr c9
              subst c9
              have H1 : (gjson_nameOfLast.l0 kj2 a0 (wrap64 (x3_1 - 1))) = some r := by rw [if_neg (show ¬ (false = true) by decide)] at H; exact H
              clear H
              have H := H1
              clear H1
              have H' := Aside0.mk H
              clear H
              go_wp2
              go_roundg kj2
              case measure => have := HK1.out; have := HJ2.out; omega
              case rel => exact ⟨(wrap64 (x3_1 - 1)), (by first | rfl | (simp; done) | (simp [*]; done)), H', ⟨by have := HK1.out; have := HJ2.out; omega⟩, by repeat (first | exact Drawn0.refl _ | apply Drawn0.step)⟩
      · rw [if_neg c2] at H
        have c2b0 : decide (0 ≤ x3_1) = false := decide_eq_false c2
        clear c2
        obtain rfl := Option.some.inj H
        go_wp2
        go_ret
        exact ⟨by first | rfl | (simp; done) | (simp [*]; done), by repeat (first | exact Drawn0.refl _ | apply Drawn0.step)⟩

end Go.Proofs.Ytdndddembndnhaa.PA
