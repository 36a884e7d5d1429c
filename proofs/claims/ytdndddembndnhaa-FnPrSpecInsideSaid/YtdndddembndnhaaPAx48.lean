-- Written by a program of this session out of the translation (a changed copy of the kit's print); Lean checks it.
import Derived.Test.YtdndddembndnhaaPAx0
import Derived.Test.YtdndddembndnhaaPAx39
import Derived.Test.YtdndddembndnhaaPAx43
import Derived.Test.YtdndddembndnhaaPAx46
import Derived.Test.YtdndddembndnhaaPAx47
namespace Go.Proofs.Ytdndddembndnhaa.PA
open Go.RowKit Go.Proofs.YtdndddembndnhaaW.PrintWords Go.Proofs.YtdndddembndnhaaW.PrintLast Go.Proofs.YtdndddembndnhaaW.PrintMore
attribute [local go_sem] max2_int min2_int max_two min_two max_three min_three max_four min_four   -- for this text's walks alone
set_option linter.unusedVariables false
set_option linter.unusedSimpArgs false

/-! ### laws_FnPrSpecInside: function 7 -/
mutual
def laws_FnPrSpecInside.j0 : Nat → ByteArray → ByteArray → Bool → Option (Bool)
  | 0, _, _, _ => none
  | k + 1, x0, x1, x16 => if x16 = true then (some true) else ((spec_Quote.f k x0).bind fun t492 => (laws_FnPrSpecInside.l0 k x0 x1 t492 0))
def laws_FnPrSpecInside.l0 : Nat → ByteArray → ByteArray → ByteArray → Int → Option (Bool)
  | 0, _, _, _, _ => none
  | k + 1, x0, x1, x5, x6 => if x6 < (x1.size : Int) then (if 0 ≤ x6 then (if (bt x1 x6) = 10 then (some true) else (if (bt x1 x6) = 13 then (some true) else (laws_FnPrSpecInside.l0 k x0 x1 x5 (wrap64 (x6 + 1))))) else (none)) else (if (wrap64 ((x5.size : Int) + (x1.size : Int))) > 4096 then (laws_FnPrSpecInside.j2 k x1 x5 true) else ((spec_UTF8.f k x0).bind fun t493 => (laws_FnPrSpecInside.j2 k x1 x5 (!t493))))
def laws_FnPrSpecInside.j2 : Nat → ByteArray → ByteArray → Bool → Option (Bool)
  | 0, _, _, _ => none
  | k + 1, x1, x5, x45 => if x45 = true then (some true) else (if 2 + x1.size ≤ 9223372036854775807 then (if 2 + x1.size + 1 ≤ 9223372036854775807 then (if 2 + x1.size + 1 + x5.size ≤ 9223372036854775807 then (if 2 + x1.size + 1 + x5.size + 2 ≤ 9223372036854775807 then (if 2 + x1.size + 1 + x5.size + 2 + x1.size ≤ 9223372036854775807 then ((impl_PrSpec.f k ((((((⟨#[47, 47]⟩ : ByteArray) ++ x1) ++ (⟨#[10]⟩ : ByteArray)) ++ x5) ++ (⟨#[47, 47]⟩ : ByteArray)) ++ x1)).bind fun t494 => (if (t494.size : Int) = (((((((⟨#[47, 47]⟩ : ByteArray) ++ x1) ++ (⟨#[10]⟩ : ByteArray)) ++ x5) ++ (⟨#[47, 47]⟩ : ByteArray)) ++ x1).size : Int) then (if 0 ≤ (wrap64 (2 + (x1.size : Int))) then (if (wrap64 (2 + (x1.size : Int))) ≤ (wrap64 ((wrap64 (3 + (x1.size : Int))) + (x5.size : Int))) then (if (wrap64 ((wrap64 (3 + (x1.size : Int))) + (x5.size : Int))) ≤ (t494.size : Int) then (if 1 + x5.size ≤ 9223372036854775807 then (if (t494.extract ((wrap64 (2 + (x1.size : Int))) : Int).toNat ((wrap64 ((wrap64 (3 + (x1.size : Int))) + (x5.size : Int))) : Int).toNat).toList = ((⟨#[10]⟩ : ByteArray) ++ x5).toList then (if (wrap64 (2 + (x1.size : Int))) ≤ (t494.size : Int) then ((laws_prBlanksAlone.f k (t494.extract 0 ((wrap64 (2 + (x1.size : Int))) : Int).toNat)).bind fun t495 => (if t495 = true then (if 0 ≤ (wrap64 ((wrap64 (3 + (x1.size : Int))) + (x5.size : Int))) then ((laws_prBlanksAlone.f k (t494.extract ((wrap64 ((wrap64 (3 + (x1.size : Int))) + (x5.size : Int))) : Int).toNat t494.size)).bind fun t496 => (some t496)) else (none)) else (some false))) else (none)) else (some false)) else (none)) else (none)) else (none)) else (none)) else (some false))) else (none)) else (none)) else (none)) else (none)) else (none))
end
def laws_FnPrSpecInside.f (k : Nat) (a0 : ByteArray) (a1 : ByteArray) : Option (Bool) := if (a0.size : Int) > 2147483647 then (laws_FnPrSpecInside.j0 k a0 a1 true) else (laws_FnPrSpecInside.j0 k a0 a1 (decide ((a1.size : Int) > 2147483647)))
theorem laws_FnPrSpecInside.mono_l : ∀ k, (∀ y0 y1 y2, LeO (laws_FnPrSpecInside.j0 k y0 y1 y2) (laws_FnPrSpecInside.j0 (k + 1) y0 y1 y2)) ∧ (∀ y0 y1 y2 y3, LeO (laws_FnPrSpecInside.l0 k y0 y1 y2 y3) (laws_FnPrSpecInside.l0 (k + 1) y0 y1 y2 y3)) ∧ (∀ y0 y1 y2, LeO (laws_FnPrSpecInside.j2 k y0 y1 y2) (laws_FnPrSpecInside.j2 (k + 1) y0 y1 y2))
  | 0 => ⟨fun _ _ _ r h => by simp [laws_FnPrSpecInside.j0] at h, fun _ _ _ _ r h => by simp [laws_FnPrSpecInside.l0] at h, fun _ _ _ r h => by simp [laws_FnPrSpecInside.j2] at h⟩
  | k + 1 => by
    obtain ⟨ih0, ih1, ih2⟩ := laws_FnPrSpecInside.mono_l k
    refine ⟨?_, ?_, ?_⟩
    · intro y0 y1 y2
      unfold laws_FnPrSpecInside.j0
      repeat' first
      | (with_reducible exact ih0 _ _ _)
      | (with_reducible exact ih1 _ _ _ _)
      | (with_reducible exact ih2 _ _ _)
      | (with_reducible exact impl_PrSpec.mono _ _)
      | (with_reducible exact laws_prBlanksAlone.mono _ _)
      | (with_reducible exact spec_Quote.mono _ _)
      | (with_reducible exact spec_UTF8.mono _ _)
      | (with_reducible exact LeO.refl _)
      | (with_reducible exact LeO.none _)
      | (with_reducible refine LeO.ite ?_ ?_)
      | (with_reducible refine LeO.bind ?_ (fun _ => ?_))
      | exact ih0 _ _ _
      | exact ih1 _ _ _ _
      | exact ih2 _ _ _
      | exact impl_PrSpec.mono _ _
      | exact laws_prBlanksAlone.mono _ _
      | exact spec_Quote.mono _ _
      | exact spec_UTF8.mono _ _
      | exact LeO.none _
      | refine LeO.ite ?_ ?_
      | refine LeO.bind ?_ (fun _ => ?_)
    · intro y0 y1 y2 y3
      unfold laws_FnPrSpecInside.l0
      repeat' first
      | (with_reducible exact ih0 _ _ _)
      | (with_reducible exact ih1 _ _ _ _)
      | (with_reducible exact ih2 _ _ _)
      | (with_reducible exact impl_PrSpec.mono _ _)
      | (with_reducible exact laws_prBlanksAlone.mono _ _)
      | (with_reducible exact spec_Quote.mono _ _)
      | (with_reducible exact spec_UTF8.mono _ _)
      | (with_reducible exact LeO.refl _)
      | (with_reducible exact LeO.none _)
      | (with_reducible refine LeO.ite ?_ ?_)
      | (with_reducible refine LeO.bind ?_ (fun _ => ?_))
      | exact ih0 _ _ _
      | exact ih1 _ _ _ _
      | exact ih2 _ _ _
      | exact impl_PrSpec.mono _ _
      | exact laws_prBlanksAlone.mono _ _
      | exact spec_Quote.mono _ _
      | exact spec_UTF8.mono _ _
      | exact LeO.none _
      | refine LeO.ite ?_ ?_
      | refine LeO.bind ?_ (fun _ => ?_)
    · intro y0 y1 y2
      unfold laws_FnPrSpecInside.j2
      repeat' first
      | (with_reducible exact ih0 _ _ _)
      | (with_reducible exact ih1 _ _ _ _)
      | (with_reducible exact ih2 _ _ _)
      | (with_reducible exact impl_PrSpec.mono _ _)
      | (with_reducible exact laws_prBlanksAlone.mono _ _)
      | (with_reducible exact spec_Quote.mono _ _)
      | (with_reducible exact spec_UTF8.mono _ _)
      | (with_reducible exact LeO.refl _)
      | (with_reducible exact LeO.none _)
      | (with_reducible refine LeO.ite ?_ ?_)
      | (with_reducible refine LeO.bind ?_ (fun _ => ?_))
      | exact ih0 _ _ _
      | exact ih1 _ _ _ _
      | exact ih2 _ _ _
      | exact impl_PrSpec.mono _ _
      | exact laws_prBlanksAlone.mono _ _
      | exact spec_Quote.mono _ _
      | exact spec_UTF8.mono _ _
      | exact LeO.none _
      | refine LeO.ite ?_ ?_
      | refine LeO.bind ?_ (fun _ => ?_)
theorem laws_FnPrSpecInside.mono : ∀ a0 a1 k, LeO (laws_FnPrSpecInside.f k a0 a1) (laws_FnPrSpecInside.f (k + 1) a0 a1) := by
  intro a0 a1 k
  obtain ⟨ih0, ih1, ih2⟩ := laws_FnPrSpecInside.mono_l k
  unfold laws_FnPrSpecInside.f
  repeat' first
      | (with_reducible exact ih0 _ _ _)
      | (with_reducible exact ih1 _ _ _ _)
      | (with_reducible exact ih2 _ _ _)
      | (with_reducible exact impl_PrSpec.mono _ _)
      | (with_reducible exact laws_prBlanksAlone.mono _ _)
      | (with_reducible exact spec_Quote.mono _ _)
      | (with_reducible exact spec_UTF8.mono _ _)
      | (with_reducible exact LeO.refl _)
      | (with_reducible exact LeO.none _)
      | (with_reducible refine LeO.ite ?_ ?_)
      | (with_reducible refine LeO.bind ?_ (fun _ => ?_))
      | exact ih0 _ _ _
      | exact ih1 _ _ _ _
      | exact ih2 _ _ _
      | exact impl_PrSpec.mono _ _
      | exact laws_prBlanksAlone.mono _ _
      | exact spec_Quote.mono _ _
      | exact spec_UTF8.mono _ _
      | exact LeO.none _
      | refine LeO.ite ?_ ?_
      | refine LeO.bind ?_ (fun _ => ?_)
set_option maxHeartbeats 8000000 in
set_option maxRecDepth 100000 in
theorem laws_FnPrSpecInside.calls (k : Nat) (a0 : ByteArray) (a1 : ByteArray) (r : Bool) (w : World) (h : laws_FnPrSpecInside.f k a0 a1 = some r) :
    Calls Try.prog 7 #[.string a0, .string a1] w fun e w' => e = .returned (.bool r) ∧ Below w.heap.size w w' := by
  have HB := Aside0.mk (Below.refl w.heap.size w)
  have H : (if (a0.size : Int) > 2147483647 then (laws_FnPrSpecInside.j0 k a0 a1 true) else (laws_FnPrSpecInside.j0 k a0 a1 (decide ((a1.size : Int) > 2147483647)))) = some r := h
  clear h
  have HC3 := Aside0.mk H
  clear H
  go_enter Try.func7, Try.ntmps7
  go_upto_region 1 with (fail)
  go_cut [16] (fun v16 wc => ∃ (kq : Nat) (x16_2 : Bool), v16 = .bool x16_2 ∧ Aside0 (laws_FnPrSpecInside.j0 kq a0 a1 x16_2 = some r) ∧ Aside0 (kq ≤ k) ∧ Aside0 (Below w.heap.size w wc))
  case first =>
    have H := HC3.out
    clear HC3
    by_cases c4 : (a0.size : Int) > 2147483647
    · rw [if_pos c4] at H
      have c4b0 : decide (2147483647 < (a0.size : Int)) = true := decide_eq_true c4
      have c4b1 : decide (2147483647 < a0.size) = true := decide_eq_true (by omega)
      clear c4
      (first | rw [c4b0] | (simp only [i64_w, i32_w]; rw [c4b0]) | skip)
      have H' := Aside0.mk H
      clear H
      go_wp2
      go_meet
      case rel => exact ⟨_, (true), (by first | rfl | (simp; done) | (simp [*]; done)), H', ⟨by first | omega | exact Nat.le_refl _⟩, ⟨by repeat (first | (with_reducible first | exact HB.out | apply below_alloc | apply pw_below_drewN | apply below_drew1) | exact HB.out)⟩⟩
    · rw [if_neg c4] at H
      have c4b0 : decide (2147483647 < (a0.size : Int)) = false := decide_eq_false c4
      have c4b1 : decide (2147483647 < a0.size) = false := decide_eq_false (by omega)
      clear c4
      (first | rw [c4b0] | (simp only [i64_w, i32_w]; rw [c4b0]) | skip)
      have H' := Aside0.mk H
      clear H
      go_wp2
      go_meet
      case rel => exact ⟨_, (decide ((a1.size : Int) > 2147483647)), (by first | rfl | (simp; done) | (simp [*]; done)), H', ⟨by first | omega | exact Nat.le_refl _⟩, ⟨by repeat (first | (with_reducible first | exact HB.out | apply below_alloc | apply pw_below_drewN | apply below_drew1) | exact HB.out)⟩⟩
  case rest =>
    clear HC3
    try clear p2
    try clear c4
    try clear c4b0
    try clear c4b1
    obtain ⟨kq, x16_2, rfl, HA, HJ2, HB⟩ := hcut
    cases kq with
    | zero => exact absurd HA.out (by simp [laws_FnPrSpecInside.j0])
    | succ kj2 =>
      have H := HA.out
      clear HA
      simp only [laws_FnPrSpecInside.j0] at H
      by_cases c5 : x16_2 = true
      · subst c5
        have H1 : (some true) = some r := by rw [if_pos rfl] at H; exact H
        clear H
        have H := H1
        clear H1
        obtain rfl := Option.some.inj H
        go_wp2
        go_ret
        exact ⟨by first | rfl | (simp [errW_none, errW_some] <;> rfl) | (simp [*, errW_none, errW_some] <;> rfl), by repeat (first | (with_reducible first | exact HB.out | apply below_alloc | apply pw_below_drewN | apply below_drew1) | exact HB.out)⟩
      · replace c5 := Bool.eq_false_iff.mpr c5
        subst c5
        have H1 : ((spec_Quote.f kj2 a0).bind fun t492 => (laws_FnPrSpecInside.l0 kj2 a0 a1 t492 0)) = some r := by rw [if_neg (show ¬ (false = true) by decide)] at H; exact H
        clear H
        have H := H1
        clear H1
        replace H := Option.bind_eq_some_iff.mp H
        obtain ⟨t492, A60, H⟩ := H
        replace H : (laws_FnPrSpecInside.l0 kj2 a0 a1 t492 0) = some r := H
        have A6 := Aside0.mk A60
        clear A60
        have H' := Aside0.mk H
        clear H
        go_wp2_with (first | ((with_reducible refine gate_callee (f := 18) rfl ?_); refine goesL_ (some 18) rfl rfl Try.func18 (by kernel_rfl) rfl #[.string a0] rfl (by (try simp only [List.map_toArray, List.map_cons, List.map_nil]); first | done | rfl | (simp only [List.length_drop, List.length_take]; rfl)) ?_; (with_reducible refine (spec_Quote.calls kj2 a0 t492 _ A6.out).mono ?_); rintro e w7 ⟨rfl, hb⟩; refine ⟨_, rfl, ?_⟩; have n0_ := Aside0.mk (below_step (by repeat (first | (with_reducible first | exact HB.out | apply below_alloc | apply pw_below_drewN | apply below_drew1) | exact HB.out)) hb); clear HB; have HB := n0_; clear n0_; (try clear hb); (try clear hb2); (try clear hk); (try clear hi)))
        try simp only [Act.put, List.setIfInBounds_toArray, List.set_cons_succ, List.set_cons_zero]
        go_loopg [6] kj2 (fun kq v6 w' => ∃ (x6_2 : Int), v6 = .int .i64 x6_2 ∧ Aside0 (laws_FnPrSpecInside.l0 kq a0 a1 t492 x6_2 = some r) ∧ Aside0 (kq ≤ kj2) ∧ Aside0 (Below w.heap.size w w'))
        case atStart => exact ⟨(0), (by first | rfl | (simp; done) | (simp [*]; done)), H', ⟨Nat.le_refl _⟩, ⟨by repeat (first | (with_reducible first | exact HB.out | apply below_alloc | apply pw_below_drewN | apply below_drew1) | exact HB.out)⟩⟩
        case round =>
          clear H'
          try clear c1
          try clear p2
          try clear c4
          try clear c4b0
          try clear c4b1
          try clear c5
          try clear c7
          try clear p2
          obtain ⟨x6_2, rfl, HA, HK2, HB⟩ := hrel
          cases gk with
          | zero => exact absurd HA.out (by simp [laws_FnPrSpecInside.l0])
          | succ k2 =>
            have H := HA.out
            clear HA
            simp only [laws_FnPrSpecInside.l0] at H
            by_cases c8 : x6_2 < (a1.size : Int)
            · rw [if_pos c8] at H
              have c8b0 : decide (x6_2 < (a1.size : Int)) = true := decide_eq_true c8
              clear c8
              by_cases c9 : 0 ≤ x6_2
              · rw [if_pos c9] at H
                have c9b0 : decide (0 ≤ x6_2) = true := decide_eq_true c9
                clear c9
                by_cases c11 : (bt a1 x6_2) = 10
                · rw [if_pos c11] at H
                  have c11b0 : ((bt a1 x6_2) == 10) = true := beq_iff_eq.mpr c11
                  have c11b1 : ((bt a1 x6_2) != 10) = false := bne_eq_false_iff_eq.mpr c11
                  clear c11
                  obtain rfl := Option.some.inj H
                  have p10 : 0 ≤ (x6_2 : Int) := of_decide_eq_true (by first | (with_reducible assumption) | assumption)
                  have q10 : x6_2 < (a1.size : Int) := of_decide_eq_true (by first | (with_reducible assumption) | assumption)
                  have hx10 := bt_at a1 x6_2
                  replace p10 := eq_true p10
                  replace q10 := eq_true q10
                  go_wp2
                  go_ret
                  exact ⟨by first | rfl | (simp [errW_none, errW_some] <;> rfl) | (simp [*, errW_none, errW_some] <;> rfl), by repeat (first | (with_reducible first | exact HB.out | apply below_alloc | apply pw_below_drewN | apply below_drew1) | exact HB.out)⟩
                · rw [if_neg c11] at H
                  have c11b0 : ((bt a1 x6_2) == 10) = false := beq_eq_false_iff_ne.mpr c11
                  have c11b1 : ((bt a1 x6_2) != 10) = true := bne_iff_ne.mpr c11
                  by_cases c13 : (bt a1 x6_2) = 13
                  · rw [if_pos c13] at H
                    have c13b0 : ((bt a1 x6_2) == 13) = true := beq_iff_eq.mpr c13
                    have c13b1 : ((bt a1 x6_2) != 13) = false := bne_eq_false_iff_eq.mpr c13
                    clear c13
                    obtain rfl := Option.some.inj H
                    have p10 : 0 ≤ (x6_2 : Int) := of_decide_eq_true (by first | (with_reducible assumption) | assumption)
                    have q10 : x6_2 < (a1.size : Int) := of_decide_eq_true (by first | (with_reducible assumption) | assumption)
                    have hx10 := bt_at a1 x6_2
                    replace p10 := eq_true p10
                    replace q10 := eq_true q10
                    have p12 : 0 ≤ (x6_2 : Int) := of_decide_eq_true (by first | (with_reducible assumption) | assumption)
                    have q12 : x6_2 < (a1.size : Int) := of_decide_eq_true (by first | (with_reducible assumption) | assumption)
                    have hx12 := bt_at a1 x6_2
                    replace p12 := eq_true p12
                    replace q12 := eq_true q12
                    go_wp2
                    go_ret
                    exact ⟨by first | rfl | (simp [errW_none, errW_some] <;> rfl) | (simp [*, errW_none, errW_some] <;> rfl), by repeat (first | (with_reducible first | exact HB.out | apply below_alloc | apply pw_below_drewN | apply below_drew1) | exact HB.out)⟩
                  · rw [if_neg c13] at H
                    have c13b0 : ((bt a1 x6_2) == 13) = false := beq_eq_false_iff_ne.mpr c13
                    have c13b1 : ((bt a1 x6_2) != 13) = true := bne_iff_ne.mpr c13
                    have H' := Aside0.mk H
                    clear H
                    have p10 : 0 ≤ (x6_2 : Int) := of_decide_eq_true (by first | (with_reducible assumption) | assumption)
                    have q10 : x6_2 < (a1.size : Int) := of_decide_eq_true (by first | (with_reducible assumption) | assumption)
                    have hx10 := bt_at a1 x6_2
                    replace p10 := eq_true p10
                    replace q10 := eq_true q10
                    have p12 : 0 ≤ (x6_2 : Int) := of_decide_eq_true (by first | (with_reducible assumption) | assumption)
                    have q12 : x6_2 < (a1.size : Int) := of_decide_eq_true (by first | (with_reducible assumption) | assumption)
                    have hx12 := bt_at a1 x6_2
                    replace p12 := eq_true p12
                    replace q12 := eq_true q12
                    go_wp2
                    go_roundg k2
                    case measure => have := HJ2.out; have := HK2.out; omega
                    case rel => exact ⟨(wrap64 (x6_2 + 1)), (by first | rfl | (simp; done) | (simp [*]; done)), H', ⟨by have := HJ2.out; have := HK2.out; omega⟩, ⟨by repeat (first | (with_reducible first | exact HB.out | apply below_alloc | apply pw_below_drewN | apply below_drew1) | exact HB.out)⟩⟩
              · rw [if_neg c9] at H
                exact absurd H (by simp)
            · rw [if_neg c8] at H
              have c8b0 : decide (x6_2 < (a1.size : Int)) = false := decide_eq_false c8
              clear c8
              have HC14 := Aside0.mk H
              clear H
              go_upto_region 9 with (fail)
              go_cut [45] (fun v45 wc => ∃ (kq : Nat) (x45_13 : Bool), v45 = .bool x45_13 ∧ Aside0 (laws_FnPrSpecInside.j2 kq a1 t492 x45_13 = some r) ∧ Aside0 (kq ≤ k2) ∧ Aside0 (Below w.heap.size w wc))
              case first =>
                have H := HC14.out
                clear HC14
                by_cases c15 : (wrap64 ((t492.size : Int) + (a1.size : Int))) > 4096
                · rw [if_pos c15] at H
                  have c15b0 : decide (4096 < (wrap64 ((t492.size : Int) + (a1.size : Int)))) = true := decide_eq_true c15
                  clear c15
                  (first | rw [c15b0] | (simp only [i64_w, i32_w]; rw [c15b0]) | skip)
                  have H' := Aside0.mk H
                  clear H
                  go_wp2
                  go_meet
                  case rel => exact ⟨_, (true), (by first | rfl | (simp; done) | (simp [*]; done)), H', ⟨by have := HJ2.out; have := HK2.out; first | omega | exact Nat.le_refl _⟩, ⟨by repeat (first | (with_reducible first | exact HB.out | apply below_alloc | apply pw_below_drewN | apply below_drew1) | exact HB.out)⟩⟩
                · rw [if_neg c15] at H
                  have c15b0 : decide (4096 < (wrap64 ((t492.size : Int) + (a1.size : Int)))) = false := decide_eq_false c15
                  clear c15
                  (first | rw [c15b0] | (simp only [i64_w, i32_w]; rw [c15b0]) | skip)
                  replace H := Option.bind_eq_some_iff.mp H
                  obtain ⟨t493, A160, H⟩ := H
                  replace H : (laws_FnPrSpecInside.j2 k2 a1 t492 (!t493)) = some r := H
                  have A16 := Aside0.mk A160
                  clear A160
                  have H' := Aside0.mk H
                  clear H
                  go_wp2_with (first | (go_at_call 19; (with_reducible refine (spec_UTF8.calls k2 a0 t493 _ A16.out).mono ?_); rintro e w' ⟨rfl, ⟨nd, rfl⟩⟩))
                  go_meet
                  case rel => exact ⟨_, (!t493), (by first | rfl | (simp; done) | (simp [*]; done)), H', ⟨by have := HJ2.out; have := HK2.out; first | omega | exact Nat.le_refl _⟩, ⟨by repeat (first | (with_reducible first | exact HB.out | apply below_alloc | apply pw_below_drewN | apply below_drew1) | exact HB.out)⟩⟩
              case rest =>
                clear HC14
                try clear c1
                try clear p1
                try clear q1
                try clear hx1
                try clear p2
                try clear c4
                try clear c4b0
                try clear c4b1
                try clear c5
                try clear p6
                try clear c7
                try clear c8
                try clear c8b0
                try clear c9
                try clear c9b0
                try clear p10
                try clear q10
                try clear hx10
                try clear c11
                try clear c11b0
                try clear c11b1
                try clear p12
                try clear q12
                try clear hx12
                try clear c13
                try clear c13b0
                try clear c13b1
                try clear c15
                try clear c15b0
                try clear p10
                try clear p12
                try clear p2
                try clear q10
                try clear q12
                obtain ⟨kq, x45_13, rfl, HA, HJ13, HB⟩ := hcut
                cases kq with
                | zero => exact absurd HA.out (by simp [laws_FnPrSpecInside.j2])
                | succ kj13 =>
                  have H := HA.out
                  clear HA
                  simp only [laws_FnPrSpecInside.j2] at H
                  by_cases c17 : x45_13 = true
                  · subst c17
                    have H1 : (some true) = some r := by rw [if_pos rfl] at H; exact H
                    clear H
                    have H := H1
                    clear H1
                    obtain rfl := Option.some.inj H
                    go_wp2
                    go_ret
                    exact ⟨by first | rfl | (simp [errW_none, errW_some] <;> rfl) | (simp [*, errW_none, errW_some] <;> rfl), by repeat (first | (with_reducible first | exact HB.out | apply below_alloc | apply pw_below_drewN | apply below_drew1) | exact HB.out)⟩
                  · replace c17 := Bool.eq_false_iff.mpr c17
                    subst c17
                    have H1 : (if 2 + a1.size ≤ 9223372036854775807 then (if 2 + a1.size + 1 ≤ 9223372036854775807 then (if 2 + a1.size + 1 + t492.size ≤ 9223372036854775807 then (if 2 + a1.size + 1 + t492.size + 2 ≤ 9223372036854775807 then (if 2 + a1.size + 1 + t492.size + 2 + a1.size ≤ 9223372036854775807 then ((impl_PrSpec.f kj13 ((((((⟨#[47, 47]⟩ : ByteArray) ++ a1) ++ (⟨#[10]⟩ : ByteArray)) ++ t492) ++ (⟨#[47, 47]⟩ : ByteArray)) ++ a1)).bind fun t494 => (if (t494.size : Int) = (((((((⟨#[47, 47]⟩ : ByteArray) ++ a1) ++ (⟨#[10]⟩ : ByteArray)) ++ t492) ++ (⟨#[47, 47]⟩ : ByteArray)) ++ a1).size : Int) then (if 0 ≤ (wrap64 (2 + (a1.size : Int))) then (if (wrap64 (2 + (a1.size : Int))) ≤ (wrap64 ((wrap64 (3 + (a1.size : Int))) + (t492.size : Int))) then (if (wrap64 ((wrap64 (3 + (a1.size : Int))) + (t492.size : Int))) ≤ (t494.size : Int) then (if 1 + t492.size ≤ 9223372036854775807 then (if (t494.extract ((wrap64 (2 + (a1.size : Int))) : Int).toNat ((wrap64 ((wrap64 (3 + (a1.size : Int))) + (t492.size : Int))) : Int).toNat).toList = ((⟨#[10]⟩ : ByteArray) ++ t492).toList then (if (wrap64 (2 + (a1.size : Int))) ≤ (t494.size : Int) then ((laws_prBlanksAlone.f kj13 (t494.extract 0 ((wrap64 (2 + (a1.size : Int))) : Int).toNat)).bind fun t495 => (if t495 = true then (if 0 ≤ (wrap64 ((wrap64 (3 + (a1.size : Int))) + (t492.size : Int))) then ((laws_prBlanksAlone.f kj13 (t494.extract ((wrap64 ((wrap64 (3 + (a1.size : Int))) + (t492.size : Int))) : Int).toNat t494.size)).bind fun t496 => (some t496)) else (none)) else (some false))) else (none)) else (some false)) else (none)) else (none)) else (none)) else (none)) else (some false))) else (none)) else (none)) else (none)) else (none)) else (none)) = some r := by rw [if_neg (show ¬ (false = true) by decide)] at H; exact H
                    clear H
                    have H := H1
                    clear H1
                    by_cases c18 : 2 + a1.size ≤ 9223372036854775807
                    · rw [if_pos c18] at H
                      have c18b0 := eq_true c18
                      have c18b1 : decide (2 + a1.size ≤ 9223372036854775807) = true := decide_eq_true c18
                      try have c18b2 : (9223372036854775807 < 2 + a1.size) = False := eq_false (Nat.not_lt.2 c18)
                      clear c18
                      by_cases c19 : 2 + a1.size + 1 ≤ 9223372036854775807
                      · rw [if_pos c19] at H
                        have c19b0 := eq_true c19
                        have c19b1 : decide (2 + a1.size + 1 ≤ 9223372036854775807) = true := decide_eq_true c19
                        try have c19b2 : (9223372036854775807 < 2 + a1.size + 1) = False := eq_false (Nat.not_lt.2 c19)
                        clear c19
                        by_cases c20 : 2 + a1.size + 1 + t492.size ≤ 9223372036854775807
                        · rw [if_pos c20] at H
                          have c20b0 := eq_true c20
                          have c20b1 : decide (2 + a1.size + 1 + t492.size ≤ 9223372036854775807) = true := decide_eq_true c20
                          try have c20b2 : (9223372036854775807 < 2 + a1.size + 1 + t492.size) = False := eq_false (Nat.not_lt.2 c20)
                          clear c20
                          by_cases c21 : 2 + a1.size + 1 + t492.size + 2 ≤ 9223372036854775807
                          · rw [if_pos c21] at H
                            have c21b0 := eq_true c21
                            have c21b1 : decide (2 + a1.size + 1 + t492.size + 2 ≤ 9223372036854775807) = true := decide_eq_true c21
                            try have c21b2 : (9223372036854775807 < 2 + a1.size + 1 + t492.size + 2) = False := eq_false (Nat.not_lt.2 c21)
                            clear c21
                            by_cases c22 : 2 + a1.size + 1 + t492.size + 2 + a1.size ≤ 9223372036854775807
                            · rw [if_pos c22] at H
                              have c22b0 := eq_true c22
                              have c22b1 : decide (2 + a1.size + 1 + t492.size + 2 + a1.size ≤ 9223372036854775807) = true := decide_eq_true c22
                              try have c22b2 : (9223372036854775807 < 2 + a1.size + 1 + t492.size + 2 + a1.size) = False := eq_false (Nat.not_lt.2 c22)
                              clear c22
                              replace H := Option.bind_eq_some_iff.mp H
                              obtain ⟨t494, A230, H⟩ := H
                              replace H : (if (t494.size : Int) = (((((((⟨#[47, 47]⟩ : ByteArray) ++ a1) ++ (⟨#[10]⟩ : ByteArray)) ++ t492) ++ (⟨#[47, 47]⟩ : ByteArray)) ++ a1).size : Int) then (if 0 ≤ (wrap64 (2 + (a1.size : Int))) then (if (wrap64 (2 + (a1.size : Int))) ≤ (wrap64 ((wrap64 (3 + (a1.size : Int))) + (t492.size : Int))) then (if (wrap64 ((wrap64 (3 + (a1.size : Int))) + (t492.size : Int))) ≤ (t494.size : Int) then (if 1 + t492.size ≤ 9223372036854775807 then (if (t494.extract ((wrap64 (2 + (a1.size : Int))) : Int).toNat ((wrap64 ((wrap64 (3 + (a1.size : Int))) + (t492.size : Int))) : Int).toNat).toList = ((⟨#[10]⟩ : ByteArray) ++ t492).toList then (if (wrap64 (2 + (a1.size : Int))) ≤ (t494.size : Int) then ((laws_prBlanksAlone.f kj13 (t494.extract 0 ((wrap64 (2 + (a1.size : Int))) : Int).toNat)).bind fun t495 => (if t495 = true then (if 0 ≤ (wrap64 ((wrap64 (3 + (a1.size : Int))) + (t492.size : Int))) then ((laws_prBlanksAlone.f kj13 (t494.extract ((wrap64 ((wrap64 (3 + (a1.size : Int))) + (t492.size : Int))) : Int).toNat t494.size)).bind fun t496 => (some t496)) else (none)) else (some false))) else (none)) else (some false)) else (none)) else (none)) else (none)) else (none)) else (some false)) = some r := H
                              have A23 := Aside0.mk A230
                              clear A230
                              by_cases c24 : (t494.size : Int) = (((((((⟨#[47, 47]⟩ : ByteArray) ++ a1) ++ (⟨#[10]⟩ : ByteArray)) ++ t492) ++ (⟨#[47, 47]⟩ : ByteArray)) ++ a1).size : Int)
                              · rw [if_pos c24] at H
                                have c24b0 : ((t494.size : Int) == (((((((⟨#[47, 47]⟩ : ByteArray) ++ a1) ++ (⟨#[10]⟩ : ByteArray)) ++ t492) ++ (⟨#[47, 47]⟩ : ByteArray)) ++ a1).size : Int)) = true := beq_iff_eq.mpr c24
                                have c24b1 : ((t494.size : Int) != (((((((⟨#[47, 47]⟩ : ByteArray) ++ a1) ++ (⟨#[10]⟩ : ByteArray)) ++ t492) ++ (⟨#[47, 47]⟩ : ByteArray)) ++ a1).size : Int)) = false := bne_eq_false_iff_eq.mpr c24
                                have c24b2 : (t494.size == ((((((⟨#[47, 47]⟩ : ByteArray) ++ a1) ++ (⟨#[10]⟩ : ByteArray)) ++ t492) ++ (⟨#[47, 47]⟩ : ByteArray)) ++ a1).size) = true := by first | simpa using c24 | (simp at c24 ⊢; omega)
                                (try (have c24b3 : (t494.size == 2 + a1.size + 1 + t492.size + 2 + a1.size) = true := by (have h_ := c24; rw [show ((((((⟨#[47, 47]⟩ : ByteArray) ++ a1) ++ (⟨#[10]⟩ : ByteArray)) ++ t492) ++ (⟨#[47, 47]⟩ : ByteArray)) ++ a1).size = 2 + a1.size + 1 + t492.size + 2 + a1.size from by simp only [ByteArray.size_append] <;> rfl] at h_; rw [beq_iff_eq]; omega)))
                                (try (have c24b4 : ((t494.size : Int) == 2 + (a1.size : Int) + 1 + (t492.size : Int) + 2 + (a1.size : Int)) = true := by (have h_ := c24; rw [show ((((((⟨#[47, 47]⟩ : ByteArray) ++ a1) ++ (⟨#[10]⟩ : ByteArray)) ++ t492) ++ (⟨#[47, 47]⟩ : ByteArray)) ++ a1).size = 2 + a1.size + 1 + t492.size + 2 + a1.size from by simp only [ByteArray.size_append] <;> rfl] at h_; rw [beq_iff_eq]; omega)))
                                clear c24
                                obtain ⟨ji25, hji25⟩ : ∃ j_ : Int, (wrap64 (2 + (a1.size : Int))) = j_ := ⟨_, rfl⟩
                                replace H : (if 0 ≤ (ji25) then (if (ji25) ≤ (wrap64 ((wrap64 (3 + (a1.size : Int))) + (t492.size : Int))) then (if (wrap64 ((wrap64 (3 + (a1.size : Int))) + (t492.size : Int))) ≤ (t494.size : Int) then (if 1 + t492.size ≤ 9223372036854775807 then (if (t494.extract ((ji25) : Int).toNat ((wrap64 ((wrap64 (3 + (a1.size : Int))) + (t492.size : Int))) : Int).toNat).toList = ((⟨#[10]⟩ : ByteArray) ++ t492).toList then (if (ji25) ≤ (t494.size : Int) then ((laws_prBlanksAlone.f kj13 (t494.extract 0 ((ji25) : Int).toNat)).bind fun t495 => (if t495 = true then (if 0 ≤ (wrap64 ((wrap64 (3 + (a1.size : Int))) + (t492.size : Int))) then ((laws_prBlanksAlone.f kj13 (t494.extract ((wrap64 ((wrap64 (3 + (a1.size : Int))) + (t492.size : Int))) : Int).toNat t494.size)).bind fun t496 => (some t496)) else (none)) else (some false))) else (none)) else (some false)) else (none)) else (none)) else (none)) else (none)) = some r := by first | (rw [hji25] at H; exact H) | (simp only [hji25] at H ⊢; exact H)
                                (try rw [hji25] at A23)
                                have hji25w : (IntKind.i64.wrap (2 + (a1.size : Int))) = ji25 := (i64_w _).trans hji25
                                by_cases c26 : 0 ≤ (ji25)
                                · rw [if_pos c26] at H
                                  have c26b0 := eq_true c26
                                  have c26b1 : decide (0 ≤ (ji25)) = true := decide_eq_true c26
                                  clear c26
                                  by_cases c27 : (ji25) ≤ (wrap64 ((wrap64 (3 + (a1.size : Int))) + (t492.size : Int)))
                                  · rw [if_pos c27] at H
                                    have c27b0 := eq_true c27
                                    have c27b1 : decide ((ji25) ≤ (wrap64 ((wrap64 (3 + (a1.size : Int))) + (t492.size : Int)))) = true := decide_eq_true c27
                                    by_cases c28 : (wrap64 ((wrap64 (3 + (a1.size : Int))) + (t492.size : Int))) ≤ (t494.size : Int)
                                    · rw [if_pos c28] at H
                                      have c28b0 := eq_true c28
                                      have c28b1 : decide ((wrap64 ((wrap64 (3 + (a1.size : Int))) + (t492.size : Int))) ≤ (t494.size : Int)) = true := decide_eq_true c28
                                      by_cases c29 : 1 + t492.size ≤ 9223372036854775807
                                      · rw [if_pos c29] at H
                                        have c29b0 := eq_true c29
                                        have c29b1 : decide (1 + t492.size ≤ 9223372036854775807) = true := decide_eq_true c29
                                        try have c29b2 : (9223372036854775807 < 1 + t492.size) = False := eq_false (Nat.not_lt.2 c29)
                                        clear c29
                                        by_cases c30 : (t494.extract ((ji25) : Int).toNat ((wrap64 ((wrap64 (3 + (a1.size : Int))) + (t492.size : Int))) : Int).toNat).toList = ((⟨#[10]⟩ : ByteArray) ++ t492).toList
                                        · rw [if_pos c30] at H
                                          have c30b0 : ((t494.extract ((ji25) : Int).toNat ((wrap64 ((wrap64 (3 + (a1.size : Int))) + (t492.size : Int))) : Int).toNat).toList == ((⟨#[10]⟩ : ByteArray) ++ t492).toList) = true := beq_iff_eq.mpr c30
                                          have c30b1 : ((t494.extract ((ji25) : Int).toNat ((wrap64 ((wrap64 (3 + (a1.size : Int))) + (t492.size : Int))) : Int).toNat).toList != ((⟨#[10]⟩ : ByteArray) ++ t492).toList) = false := bne_eq_false_iff_eq.mpr c30
                                          clear c30
                                          have c31b0 := eq_true (of_decide_eq_true (by first | (with_reducible assumption) | assumption) : 0 ≤ (ji25))
                                          by_cases c32 : (ji25) ≤ (t494.size : Int)
                                          · rw [if_pos c32] at H
                                            have c32b0 := eq_true c32
                                            have c32b1 : decide ((ji25) ≤ (t494.size : Int)) = true := decide_eq_true c32
                                            clear c32
                                            replace H := Option.bind_eq_some_iff.mp H
                                            obtain ⟨t495, A330, H⟩ := H
                                            replace H : (if t495 = true then (if 0 ≤ (wrap64 ((wrap64 (3 + (a1.size : Int))) + (t492.size : Int))) then ((laws_prBlanksAlone.f kj13 (t494.extract ((wrap64 ((wrap64 (3 + (a1.size : Int))) + (t492.size : Int))) : Int).toNat t494.size)).bind fun t496 => (some t496)) else (none)) else (some false)) = some r := H
                                            have A33 := Aside0.mk A330
                                            clear A330
                                            by_cases c34 : t495 = true
                                            · subst c34
                                              have H1 : (if 0 ≤ (wrap64 ((wrap64 (3 + (a1.size : Int))) + (t492.size : Int))) then ((laws_prBlanksAlone.f kj13 (t494.extract ((wrap64 ((wrap64 (3 + (a1.size : Int))) + (t492.size : Int))) : Int).toNat t494.size)).bind fun t496 => (some t496)) else (none)) = some r := by rw [if_pos rfl] at H; exact H
                                              clear H
                                              have H := H1
                                              clear H1
                                              obtain ⟨ji35, hji35⟩ : ∃ j_ : Int, (wrap64 ((wrap64 (3 + (a1.size : Int))) + (t492.size : Int))) = j_ := ⟨_, rfl⟩
                                              replace H : (if 0 ≤ (ji35) then ((laws_prBlanksAlone.f kj13 (t494.extract ((ji35) : Int).toNat t494.size)).bind fun t496 => (some t496)) else (none)) = some r := by first | (rw [hji35] at H; exact H) | (simp only [hji35] at H ⊢; exact H)
                                              (try rw [hji35] at c27b0)
                                              (try rw [hji35] at c27b1)
                                              (try rw [hji35] at c27)
                                              (try rw [hji35] at c28b0)
                                              (try rw [hji35] at c28b1)
                                              (try rw [hji35] at c28)
                                              (try rw [hji35] at c30b0)
                                              (try rw [hji35] at c30b1)
                                              (try rw [hji35] at A23)
                                              (try rw [hji35] at A33)
                                              have hji35w : (IntKind.i64.wrap ((wrap64 (3 + (a1.size : Int))) + (t492.size : Int))) = ji35 := (i64_w _).trans hji35
                                              by_cases c36 : 0 ≤ (ji35)
                                              · rw [if_pos c36] at H
                                                have c36b0 := eq_true c36
                                                have c36b1 : decide (0 ≤ (ji35)) = true := decide_eq_true c36
                                                clear c36
                                                have c37b0 := eq_true (of_decide_eq_true (by first | (with_reducible assumption) | assumption) : (ji35) ≤ (t494.size : Int))
                                                replace H := Option.bind_eq_some_iff.mp H
                                                obtain ⟨t496, A380, H⟩ := H
                                                replace H : (some t496) = some r := H
                                                have A38 := Aside0.mk A380
                                                clear A380
                                                obtain rfl := Option.some.inj H
                                                go_wp2_with (first | ((with_reducible refine gate_callee (f := 20) rfl ?_); refine goesL_ (some 55) rfl rfl Try.func20 (by kernel_rfl) rfl #[.string ((((((⟨#[47, 47]⟩ : ByteArray) ++ a1) ++ (⟨#[10]⟩ : ByteArray)) ++ t492) ++ (⟨#[47, 47]⟩ : ByteArray)) ++ a1)] rfl (by (try simp only [List.map_toArray, List.map_cons, List.map_nil]); first | done | rfl | (simp only [List.length_drop, List.length_take]; rfl)) ?_; (with_reducible refine (impl_PrSpec.calls kj13 ((((((⟨#[47, 47]⟩ : ByteArray) ++ a1) ++ (⟨#[10]⟩ : ByteArray)) ++ t492) ++ (⟨#[47, 47]⟩ : ByteArray)) ++ a1) t494 _ A23.out).mono ?_); rintro e w39 ⟨rfl, hb⟩; refine ⟨_, rfl, ?_⟩; have n0_ := Aside0.mk (below_step (by repeat (first | (with_reducible first | exact HB.out | apply below_alloc | apply pw_below_drewN | apply below_drew1) | exact HB.out)) hb); clear HB; have HB := n0_; clear n0_; (try clear hb); (try clear hb2); (try clear hk); (try clear hi); try have hcs40 := fun W_ : World => run_slice_string (P := Try.prog) W_ 9 t494 .i64 .i64 (ji25) (ji35) Try.underlying9 (of_decide_eq_true (by first | (with_reducible assumption) | assumption)) (of_decide_eq_true (by first | (with_reducible assumption) | assumption)) (of_decide_eq_true (by first | (with_reducible assumption) | assumption)); try have hcs41 := fun W_ : World => run_slice_string_h (P := Try.prog) W_ 9 t494 Try.underlying9 .i64 (ji25) (of_decide_eq_true (by first | (with_reducible assumption) | assumption)) (of_decide_eq_true (by first | (with_reducible assumption) | assumption))) | (go_at_call 21; (with_reducible refine (laws_prBlanksAlone.calls kj13 (t494.extract 0 ((ji25) : Int).toNat) true _ A33.out).mono ?_); rintro e w' ⟨rfl, ⟨nd, rfl⟩⟩; try have hcs42 := fun W_ : World => run_slice_string_l (P := Try.prog) W_ 9 t494 Try.underlying9 .i64 (ji35) (of_decide_eq_true (by first | (with_reducible assumption) | assumption)) (of_decide_eq_true (by first | (with_reducible assumption) | assumption))) | (go_at_call 21; (with_reducible refine (laws_prBlanksAlone.calls kj13 (t494.extract ((ji35) : Int).toNat t494.size) t496 _ A38.out).mono ?_); rintro e w' ⟨rfl, ⟨nd, rfl⟩⟩))
                                                go_ret
                                                exact ⟨by first | rfl | (simp [errW_none, errW_some] <;> rfl) | (simp only [← hji25, ← hji35]; first | rfl | (simp [errW_none, errW_some] <;> rfl)) | (simp [*, errW_none, errW_some] <;> rfl), by repeat (first | (with_reducible first | exact HB.out | apply below_alloc | apply pw_below_drewN | apply below_drew1) | exact HB.out)⟩
                                              · rw [if_neg c36] at H
                                                exact absurd H (by simp)
                                            · replace c34 := Bool.eq_false_iff.mpr c34
                                              subst c34
                                              have H1 : (some false) = some r := by rw [if_neg (show ¬ (false = true) by decide)] at H; exact H
                                              clear H
                                              have H := H1
                                              clear H1
                                              obtain rfl := Option.some.inj H
                                              go_wp2_with (first | ((with_reducible refine gate_callee (f := 20) rfl ?_); refine goesL_ (some 55) rfl rfl Try.func20 (by kernel_rfl) rfl #[.string ((((((⟨#[47, 47]⟩ : ByteArray) ++ a1) ++ (⟨#[10]⟩ : ByteArray)) ++ t492) ++ (⟨#[47, 47]⟩ : ByteArray)) ++ a1)] rfl (by (try simp only [List.map_toArray, List.map_cons, List.map_nil]); first | done | rfl | (simp only [List.length_drop, List.length_take]; rfl)) ?_; (with_reducible refine (impl_PrSpec.calls kj13 ((((((⟨#[47, 47]⟩ : ByteArray) ++ a1) ++ (⟨#[10]⟩ : ByteArray)) ++ t492) ++ (⟨#[47, 47]⟩ : ByteArray)) ++ a1) t494 _ A23.out).mono ?_); rintro e w43 ⟨rfl, hb⟩; refine ⟨_, rfl, ?_⟩; have n0_ := Aside0.mk (below_step (by repeat (first | (with_reducible first | exact HB.out | apply below_alloc | apply pw_below_drewN | apply below_drew1) | exact HB.out)) hb); clear HB; have HB := n0_; clear n0_; (try clear hb); (try clear hb2); (try clear hk); (try clear hi); try have hcs44 := fun W_ : World => run_slice_string (P := Try.prog) W_ 9 t494 .i64 .i64 (ji25) (wrap64 ((wrap64 (3 + (a1.size : Int))) + (t492.size : Int))) Try.underlying9 (of_decide_eq_true (by first | (with_reducible assumption) | assumption)) (of_decide_eq_true (by first | (with_reducible assumption) | assumption)) (of_decide_eq_true (by first | (with_reducible assumption) | assumption)); try have hcs45 := fun W_ : World => run_slice_string_h (P := Try.prog) W_ 9 t494 Try.underlying9 .i64 (ji25) (of_decide_eq_true (by first | (with_reducible assumption) | assumption)) (of_decide_eq_true (by first | (with_reducible assumption) | assumption))) | (go_at_call 21; (with_reducible refine (laws_prBlanksAlone.calls kj13 (t494.extract 0 ((ji25) : Int).toNat) false _ A33.out).mono ?_); rintro e w' ⟨rfl, ⟨nd, rfl⟩⟩))
                                              go_ret
                                              exact ⟨by first | rfl | (simp [errW_none, errW_some] <;> rfl) | (simp only [← hji25]; first | rfl | (simp [errW_none, errW_some] <;> rfl)) | (simp [*, errW_none, errW_some] <;> rfl), by repeat (first | (with_reducible first | exact HB.out | apply below_alloc | apply pw_below_drewN | apply below_drew1) | exact HB.out)⟩
                                          · rw [if_neg c32] at H
                                            exact absurd H (by simp)
                                        · rw [if_neg c30] at H
                                          have c30b0 : ((t494.extract ((ji25) : Int).toNat ((wrap64 ((wrap64 (3 + (a1.size : Int))) + (t492.size : Int))) : Int).toNat).toList == ((⟨#[10]⟩ : ByteArray) ++ t492).toList) = false := beq_eq_false_iff_ne.mpr c30
                                          have c30b1 : ((t494.extract ((ji25) : Int).toNat ((wrap64 ((wrap64 (3 + (a1.size : Int))) + (t492.size : Int))) : Int).toNat).toList != ((⟨#[10]⟩ : ByteArray) ++ t492).toList) = true := bne_iff_ne.mpr c30
                                          obtain rfl := Option.some.inj H
                                          go_wp2_with (first | ((with_reducible refine gate_callee (f := 20) rfl ?_); refine goesL_ (some 55) rfl rfl Try.func20 (by kernel_rfl) rfl #[.string ((((((⟨#[47, 47]⟩ : ByteArray) ++ a1) ++ (⟨#[10]⟩ : ByteArray)) ++ t492) ++ (⟨#[47, 47]⟩ : ByteArray)) ++ a1)] rfl (by (try simp only [List.map_toArray, List.map_cons, List.map_nil]); first | done | rfl | (simp only [List.length_drop, List.length_take]; rfl)) ?_; (with_reducible refine (impl_PrSpec.calls kj13 ((((((⟨#[47, 47]⟩ : ByteArray) ++ a1) ++ (⟨#[10]⟩ : ByteArray)) ++ t492) ++ (⟨#[47, 47]⟩ : ByteArray)) ++ a1) t494 _ A23.out).mono ?_); rintro e w46 ⟨rfl, hb⟩; refine ⟨_, rfl, ?_⟩; have n0_ := Aside0.mk (below_step (by repeat (first | (with_reducible first | exact HB.out | apply below_alloc | apply pw_below_drewN | apply below_drew1) | exact HB.out)) hb); clear HB; have HB := n0_; clear n0_; (try clear hb); (try clear hb2); (try clear hk); (try clear hi); try have hcs47 := fun W_ : World => run_slice_string (P := Try.prog) W_ 9 t494 .i64 .i64 (ji25) (wrap64 ((wrap64 (3 + (a1.size : Int))) + (t492.size : Int))) Try.underlying9 (of_decide_eq_true (by first | (with_reducible assumption) | assumption)) (of_decide_eq_true (by first | (with_reducible assumption) | assumption)) (of_decide_eq_true (by first | (with_reducible assumption) | assumption))))
                                          go_ret
                                          exact ⟨by first | rfl | (simp [errW_none, errW_some] <;> rfl) | (simp only [← hji25]; first | rfl | (simp [errW_none, errW_some] <;> rfl)) | (simp [*, errW_none, errW_some] <;> rfl), by repeat (first | (with_reducible first | exact HB.out | apply below_alloc | apply pw_below_drewN | apply below_drew1) | exact HB.out)⟩
                                      · rw [if_neg c29] at H
                                        exact absurd H (by simp)
                                    · rw [if_neg c28] at H
                                      exact absurd H (by simp)
                                  · rw [if_neg c27] at H
                                    exact absurd H (by simp)
                                · rw [if_neg c26] at H
                                  exact absurd H (by simp)
                              · rw [if_neg c24] at H
                                have c24b0 : ((t494.size : Int) == (((((((⟨#[47, 47]⟩ : ByteArray) ++ a1) ++ (⟨#[10]⟩ : ByteArray)) ++ t492) ++ (⟨#[47, 47]⟩ : ByteArray)) ++ a1).size : Int)) = false := beq_eq_false_iff_ne.mpr c24
                                have c24b1 : ((t494.size : Int) != (((((((⟨#[47, 47]⟩ : ByteArray) ++ a1) ++ (⟨#[10]⟩ : ByteArray)) ++ t492) ++ (⟨#[47, 47]⟩ : ByteArray)) ++ a1).size : Int)) = true := bne_iff_ne.mpr c24
                                have c24b2 : (t494.size == ((((((⟨#[47, 47]⟩ : ByteArray) ++ a1) ++ (⟨#[10]⟩ : ByteArray)) ++ t492) ++ (⟨#[47, 47]⟩ : ByteArray)) ++ a1).size) = false := by first | simpa using c24 | (simp at c24 ⊢; omega)
                                (try (have c24b3 : (t494.size == 2 + a1.size + 1 + t492.size + 2 + a1.size) = false := by (have h_ := c24; rw [show ((((((⟨#[47, 47]⟩ : ByteArray) ++ a1) ++ (⟨#[10]⟩ : ByteArray)) ++ t492) ++ (⟨#[47, 47]⟩ : ByteArray)) ++ a1).size = 2 + a1.size + 1 + t492.size + 2 + a1.size from by simp only [ByteArray.size_append] <;> rfl] at h_; rw [beq_eq_false_iff_ne]; omega)))
                                (try (have c24b4 : ((t494.size : Int) == 2 + (a1.size : Int) + 1 + (t492.size : Int) + 2 + (a1.size : Int)) = false := by (have h_ := c24; rw [show ((((((⟨#[47, 47]⟩ : ByteArray) ++ a1) ++ (⟨#[10]⟩ : ByteArray)) ++ t492) ++ (⟨#[47, 47]⟩ : ByteArray)) ++ a1).size = 2 + a1.size + 1 + t492.size + 2 + a1.size from by simp only [ByteArray.size_append] <;> rfl] at h_; rw [beq_eq_false_iff_ne]; omega)))
                                obtain rfl := Option.some.inj H
                                go_wp2_with (first | ((with_reducible refine gate_callee (f := 20) rfl ?_); refine goesL_ (some 55) rfl rfl Try.func20 (by kernel_rfl) rfl #[.string ((((((⟨#[47, 47]⟩ : ByteArray) ++ a1) ++ (⟨#[10]⟩ : ByteArray)) ++ t492) ++ (⟨#[47, 47]⟩ : ByteArray)) ++ a1)] rfl (by (try simp only [List.map_toArray, List.map_cons, List.map_nil]); first | done | rfl | (simp only [List.length_drop, List.length_take]; rfl)) ?_; (with_reducible refine (impl_PrSpec.calls kj13 ((((((⟨#[47, 47]⟩ : ByteArray) ++ a1) ++ (⟨#[10]⟩ : ByteArray)) ++ t492) ++ (⟨#[47, 47]⟩ : ByteArray)) ++ a1) t494 _ A23.out).mono ?_); rintro e w48 ⟨rfl, hb⟩; refine ⟨_, rfl, ?_⟩; have n0_ := Aside0.mk (below_step (by repeat (first | (with_reducible first | exact HB.out | apply below_alloc | apply pw_below_drewN | apply below_drew1) | exact HB.out)) hb); clear HB; have HB := n0_; clear n0_; (try clear hb); (try clear hb2); (try clear hk); (try clear hi)))
                                go_ret
                                exact ⟨by first | rfl | (simp [errW_none, errW_some] <;> rfl) | (simp [*, errW_none, errW_some] <;> rfl), by repeat (first | (with_reducible first | exact HB.out | apply below_alloc | apply pw_below_drewN | apply below_drew1) | exact HB.out)⟩
                            · rw [if_neg c22] at H
                              exact absurd H (by simp)
                          · rw [if_neg c21] at H
                            exact absurd H (by simp)
                        · rw [if_neg c20] at H
                          exact absurd H (by simp)
                      · rw [if_neg c19] at H
                        exact absurd H (by simp)
                    · rw [if_neg c18] at H
                      exact absurd H (by simp)

/-- THE ONE PURE STATEMENT of laws_FnPrSpecInside: yours. -/
def laws_FnPrSpecInside.Pure : Prop := ∀ (a0 : ByteArray) (a1 : ByteArray), a0.size ≤ 140737488351232 → a1.size ≤ 140737488351232 → ∃ k, laws_FnPrSpecInside.f k a0 a1 = some true
theorem laws_FnPrSpecInside.walk (P : laws_FnPrSpecInside.Pure) (a0 : ByteArray) (a1 : ByteArray) (w : World) (w0 : a0.size ≤ 140737488351232) (w1 : a1.size ≤ 140737488351232) :
    Calls Try.prog 7 #[.string a0, .string a1] w fun e w' => e = .returned (.bool true) ∧ Below w.heap.size w w' := by
  obtain ⟨k, h⟩ := P a0 a1 w0 w1
  refine (laws_FnPrSpecInside.calls k a0 a1 true w h).mono ?_
  rintro e w' ⟨rfl, hd⟩
  exact ⟨rfl, hd⟩

end Go.Proofs.Ytdndddembndnhaa.PA
