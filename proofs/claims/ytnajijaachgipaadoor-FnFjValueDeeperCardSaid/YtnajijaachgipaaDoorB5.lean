/- Texts of this claim put together: PTx9, PTx10, FjRaw, FjNum, FjAgree, FjOne, SpSame, FjDeep, PureFnFjValueDeeper, JTab. -/
import Derived.Test.YtnajijaachgipaaDoorB0
import Derived.Test.YtnajijaachgipaaDoorB4
import Derived.Test.YtnajijaachgipaaDoorB1
import Derived.Test.YtnajijaachgipaaDoorB2
import Derived.Test.YtnajijaachgipaaDoorB3
import Derived.Lib.LaidU8
import Derived.OpenShut
import Derived.Lib.SmallJoins
import Derived.Deep.Fields
section
namespace Go.Proofs.YtnajijaachgipaaDoor.PT
open Go.RowKit Go.Proofs.YtnajijaachgipaaDoorW.PrintWords Go.Proofs.YtnajijaachgipaaDoorW.PrintLast Go.Proofs.YtnajijaachgipaaDoorW.PrintMore
attribute [local go_sem] max2_int min2_int max_two min_two max_three min_three max_four min_four   -- for this text's walks alone
set_option linter.unusedVariables false
set_option linter.unusedSimpArgs false
/-! ### spec_fjNumber: function 45 -/
def spec_fjNumber.j0 : Nat → ByteArray → Int → Bool → Option (Int)
 | 0, _, _, _ => none
 | k + 1, x0, x3, x28 => if x28 = true then (some x3) else (if 0 ≤ x3 then (if x3 ≤ (x0.size : Int) then (if ((x0.extract (x3 : Int).toNat x0.size).size : Int) ≥ 3 then (if 0 ≤ 3 then (if 3 ≤ ((x0.extract (x3 : Int).toNat x0.size).size : Int) then ((spec_folds.f k ((x0.extract (x3 : Int).toNat x0.size).extract 0 3) (⟨#[105, 110, 102]⟩ : ByteArray)).bind fun t106 => (if t106 = true then (some (wrap64 (x3 + 3))) else ((spec_folds.f k ((x0.extract (x3 : Int).toNat x0.size).extract 0 3) (⟨#[110, 97, 110]⟩ : ByteArray)).bind fun t107 => (if t107 = true then (some (wrap64 (x3 + 3))) else (some 0))))) else (none)) else (none)) else (some 0)) else (none)) else (none))
def spec_fjNumber.f (k : Nat) (a0 : ByteArray) : Option (Int) := (spec_NumberBytes.f k a0).bind fun t105 => (if t105 > 1 then (spec_fjNumber.j0 k a0 t105 true) else (if t105 = (a0.size : Int) then (spec_fjNumber.j0 k a0 t105 true) else (if t105 = 1 then (if 0 < (a0.size : Int) then (if (bt a0 0) = 45 then (spec_fjNumber.j0 k a0 t105 false) else (spec_fjNumber.j0 k a0 t105 ((bt a0 0) != 43))) else (none)) else (spec_fjNumber.j0 k a0 t105 false))))
theorem spec_fjNumber.mono_l : ∀ k, (∀ y0 y1 y2, LeO (spec_fjNumber.j0 k y0 y1 y2) (spec_fjNumber.j0 (k + 1) y0 y1 y2))
 | 0 => fun _ _ _ r h => by simp [spec_fjNumber.j0] at h
 | k + 1 => by
  have ih0 := spec_fjNumber.mono_l k
  ·intro y0 y1 y2
   unfold spec_fjNumber.j0
   repeat' first
   | (with_reducible exact ih0 _ _ _)
   | (with_reducible exact spec_NumberBytes.mono _ _)
   | (with_reducible exact spec_folds.mono _ _ _)
   | (with_reducible exact LeO.refl _)
   | (with_reducible exact LeO.none _)
   | (with_reducible refine LeO.ite ?_ ?_)
   | (with_reducible refine LeO.bind ?_ (fun _ => ?_))
   | exact ih0 _ _ _
   | exact spec_NumberBytes.mono _ _
   | exact spec_folds.mono _ _ _
   | exact LeO.none _
   | refine LeO.ite ?_ ?_
   | refine LeO.bind ?_ (fun _ => ?_)
theorem spec_fjNumber.mono : ∀ a0 k, LeO (spec_fjNumber.f k a0) (spec_fjNumber.f (k + 1) a0) := by
 intro a0 k
 have ih0 := spec_fjNumber.mono_l k
 unfold spec_fjNumber.f
 repeat' first
   | (with_reducible exact ih0 _ _ _)
   | (with_reducible exact spec_NumberBytes.mono _ _)
   | (with_reducible exact spec_folds.mono _ _ _)
   | (with_reducible exact LeO.refl _)
   | (with_reducible exact LeO.none _)
   | (with_reducible refine LeO.ite ?_ ?_)
   | (with_reducible refine LeO.bind ?_ (fun _ => ?_))
   | exact ih0 _ _ _
   | exact spec_NumberBytes.mono _ _
   | exact spec_folds.mono _ _ _
   | exact LeO.none _
   | refine LeO.ite ?_ ?_
   | refine LeO.bind ?_ (fun _ => ?_)
set_option maxHeartbeats 8000000 in
set_option maxRecDepth 100000 in
theorem spec_fjNumber.calls (k : Nat) (a0 : ByteArray) (r : Int) (w : World) (h : spec_fjNumber.f k a0 = some r) :
  Calls Tryd.prog 45 #[.string a0] w fun e w' => e = .returned (.int .i64 r) ∧ Drawn0 w w' := by
 have H : ((spec_NumberBytes.f k a0).bind fun t105 => (if t105 > 1 then (spec_fjNumber.j0 k a0 t105 true) else (if t105 = (a0.size : Int) then (spec_fjNumber.j0 k a0 t105 true) else (if t105 = 1 then (if 0 < (a0.size : Int) then (if (bt a0 0) = 45 then (spec_fjNumber.j0 k a0 t105 false) else (spec_fjNumber.j0 k a0 t105 ((bt a0 0) != 43))) else (none)) else (spec_fjNumber.j0 k a0 t105 false))))) = some r := h
 clear h
 replace H := Option.bind_eq_some_iff.mp H
 obtain ⟨t105, A20, H⟩ := H
 replace H : (if t105 > 1 then (spec_fjNumber.j0 k a0 t105 true) else (if t105 = (a0.size : Int) then (spec_fjNumber.j0 k a0 t105 true) else (if t105 = 1 then (if 0 < (a0.size : Int) then (if (bt a0 0) = 45 then (spec_fjNumber.j0 k a0 t105 false) else (spec_fjNumber.j0 k a0 t105 ((bt a0 0) != 43))) else (none)) else (spec_fjNumber.j0 k a0 t105 false)))) = some r := H
 have A2 := Aside0.mk A20
 clear A20
 have HC3 := Aside0.mk H
 clear H
 go_enter Tryd.func45, Tryd.ntmps45
 go_upto_region 2 with (first | ((with_reducible refine gate_callee (f := 67) rfl ?_); refine goesL_ (some 6) rfl rfl Tryd.func67 (by kernel_rfl) rfl #[.string a0] rfl (by (try simp only [List.map_toArray, List.map_cons, List.map_nil]); first | done | rfl | (simp only [List.length_drop, List.length_take]; rfl)) ?_; (with_reducible refine (spec_NumberBytes.calls k a0 t105 _ A2.out).mono ?_); rintro e w' ⟨rfl, ⟨nd, rfl⟩⟩; refine ⟨_, rfl, ?_⟩))
 (try simp only [Act.put, List.setIfInBounds_toArray, List.set_cons_zero, List.set_cons_succ])
 go_cut [28] (fun v28 wc => ∃ (kq : Nat) (x28_2 : Bool), v28 = .bool x28_2 ∧ Aside0 (spec_fjNumber.j0 kq a0 t105 x28_2 = some r) ∧ Aside0 (kq ≤ k) ∧ Drawn0 w wc)
 case first =>
  have H := HC3.out
  clear HC3
  by_cases c4 : t105 > 1
  ·rw [if_pos c4] at H
   have c4b0 : decide (1 < t105) = true := decide_eq_true c4
   clear c4
   (first | rw [c4b0] | (simp only [i64_w, i32_w]; rw [c4b0]) | rw [c4b1] | skip)
   have H' := Aside0.mk H
   clear H
   go_wp2
   go_meet
   case rel => exact ⟨_, (true), (by first | rfl | (simp; done) | (simp [*]; done)), H', ⟨by first | omega | exact Nat.le_refl _⟩, by repeat (first | exact Drawn0.refl _ | apply Drawn0.step)⟩
  rw [if_neg c4] at H
  have c4b0 : decide (1 < t105) = false := decide_eq_false c4
  clear c4
  (first | rw [c4b0] | (simp only [i64_w, i32_w]; rw [c4b0]) | rw [c4b1] | skip)
  by_cases c5 : t105 = (a0.size : Int)
  ·rw [if_pos c5] at H
   have c5b0 : (t105 == (a0.size : Int)) = true := beq_iff_eq.mpr c5
   have c5b1 : (t105 != (a0.size : Int)) = false := bne_eq_false_iff_eq.mpr c5
   clear c5
   have H' := Aside0.mk H
   clear H
   go_wp2
   go_meet
   case rel => exact ⟨_, (true), (by first | rfl | (simp; done) | (simp [*]; done)), H', ⟨by first | omega | exact Nat.le_refl _⟩, by repeat (first | exact Drawn0.refl _ | apply Drawn0.step)⟩
  rw [if_neg c5] at H
  have c5b0 : (t105 == (a0.size : Int)) = false := beq_eq_false_iff_ne.mpr c5
  have c5b1 : (t105 != (a0.size : Int)) = true := bne_iff_ne.mpr c5
  by_cases c6 : t105 = 1
  ·rw [if_pos c6] at H
   have c6b0 : (t105 == 1) = true := beq_iff_eq.mpr c6
   have c6b1 : (t105 != 1) = false := bne_eq_false_iff_eq.mpr c6
   clear c6
   by_cases c7 : 0 < (a0.size : Int)
   ·rw [if_pos c7] at H
    have c7b0 : decide (0 < (a0.size : Int)) = true := decide_eq_true c7
    have c7b1 : decide (0 < a0.size) = true := decide_eq_true (by omega)
    clear c7
    by_cases c9 : (bt a0 0) = 45
    ·rw [if_pos c9] at H
     have c9b0 : ((bt a0 0) == 45) = true := beq_iff_eq.mpr c9
     have c9b1 : ((bt a0 0) != 45) = false := bne_eq_false_iff_eq.mpr c9
     clear c9
     have H' := Aside0.mk H
     clear H
     have p8 : 0 ≤ (0 : Int) := (by omega)
     have q8 : 0 < a0.size := (by have : (0 : Int) < (a0.size : Int) := of_decide_eq_true (by assumption); omega)
     have hx8 : ∀ h : 0 < a0.size, ((a0[0]'h).toNat : Int) = bt a0 0 := bt_at a0 0
     clear p8
     have qi8 : (0 < (a0.size : Int)) = True := eq_true (of_decide_eq_true (by assumption))
     replace q8 := eq_true q8
     go_wp2
     go_meet
     case rel => exact ⟨_, (false), (by first | rfl | (simp; done) | (simp [*]; done)), H', ⟨by first | omega | exact Nat.le_refl _⟩, by repeat (first | exact Drawn0.refl _ | apply Drawn0.step)⟩
    rw [if_neg c9] at H
    have c9b0 : ((bt a0 0) == 45) = false := beq_eq_false_iff_ne.mpr c9
    have c9b1 : ((bt a0 0) != 45) = true := bne_iff_ne.mpr c9
    have H' := Aside0.mk H
    clear H
    have p8 : 0 ≤ (0 : Int) := (by omega)
    have q8 : 0 < a0.size := (by have : (0 : Int) < (a0.size : Int) := of_decide_eq_true (by assumption); omega)
    have hx8 : ∀ h : 0 < a0.size, ((a0[0]'h).toNat : Int) = bt a0 0 := bt_at a0 0
    clear p8
    have qi8 : (0 < (a0.size : Int)) = True := eq_true (of_decide_eq_true (by assumption))
    replace q8 := eq_true q8
    have p10 : 0 ≤ (0 : Int) := (by omega)
    have q10 : 0 < a0.size := (by have : (0 : Int) < (a0.size : Int) := of_decide_eq_true (by assumption); omega)
    have hx10 : ∀ h : 0 < a0.size, ((a0[0]'h).toNat : Int) = bt a0 0 := bt_at a0 0
    clear p10
    have qi10 : (0 < (a0.size : Int)) = True := eq_true (of_decide_eq_true (by assumption))
    replace q10 := eq_true q10
    go_wp2
    go_meet
    case rel => exact ⟨_, (((bt a0 0) != 43)), (by first | rfl | (simp; done) | (simp [*]; done)), H', ⟨by first | omega | exact Nat.le_refl _⟩, by repeat (first | exact Drawn0.refl _ | apply Drawn0.step)⟩
   rw [if_neg c7] at H
   exact absurd H (by simp)
  rw [if_neg c6] at H
  have c6b0 : (t105 == 1) = false := beq_eq_false_iff_ne.mpr c6
  have c6b1 : (t105 != 1) = true := bne_iff_ne.mpr c6
  have H' := Aside0.mk H
  clear H
  go_wp2
  go_meet
  case rel => exact ⟨_, (false), (by first | rfl | (simp; done) | (simp [*]; done)), H', ⟨by first | omega | exact Nat.le_refl _⟩, by repeat (first | exact Drawn0.refl _ | apply Drawn0.step)⟩
 case rest =>
  clear HC3
  try clear p1
  try clear q1
  try clear hx1
  try clear qi1
  try clear p2
  try clear c4
  try clear c4b0
  try clear c4b1
  try clear c5
  try clear c5b0
  try clear c5b1
  try clear c6
  try clear c6b0
  try clear c6b1
  try clear c7
  try clear c7b0
  try clear c7b1
  try clear p8
  try clear q8
  try clear hx8
  try clear qi8
  try clear c9
  try clear c9b0
  try clear c9b1
  try clear p10
  try clear q10
  try clear hx10
  try clear qi10
  try clear p10
  try clear p8
  try clear q10
  try clear q8
  obtain ⟨kq, x28_2, rfl, HA, HJ2, ⟨mc2, rfl⟩⟩ := hcut
  cases kq with
  | zero => exact absurd HA.out (by simp [spec_fjNumber.j0])
  | succ kj2 =>
   have H := HA.out
   clear HA
   simp only [spec_fjNumber.j0] at H
   by_cases c11 : x28_2 = true
   ·subst c11
    have H1 : (some t105) = some r := by rw [if_pos rfl] at H; exact H
    clear H
    have H := H1
    clear H1
    obtain rfl := Option.some.inj H
    go_wp2
    go_ret
    exact ⟨by first | rfl | (simp; done) | (simp [*]; done), by repeat (first | exact Drawn0.refl _ | apply Drawn0.step)⟩
   replace c11 := Bool.eq_false_iff.mpr c11
   subst c11
   have H1 : (if 0 ≤ t105 then (if t105 ≤ (a0.size : Int) then (if ((a0.extract (t105 : Int).toNat a0.size).size : Int) ≥ 3 then (if 0 ≤ 3 then (if 3 ≤ ((a0.extract (t105 : Int).toNat a0.size).size : Int) then ((spec_folds.f kj2 ((a0.extract (t105 : Int).toNat a0.size).extract 0 3) (⟨#[105, 110, 102]⟩ : ByteArray)).bind fun t106 => (if t106 = true then (some (wrap64 (t105 + 3))) else ((spec_folds.f kj2 ((a0.extract (t105 : Int).toNat a0.size).extract 0 3) (⟨#[110, 97, 110]⟩ : ByteArray)).bind fun t107 => (if t107 = true then (some (wrap64 (t105 + 3))) else (some 0))))) else (none)) else (none)) else (some 0)) else (none)) else (none)) = some r := by rw [if_neg (show ¬ (false = true) by decide)] at H; exact H
   clear H
   have H := H1
   clear H1
   by_cases c12 : 0 ≤ t105
   ·rw [if_pos c12] at H
    have c12b0 := eq_true c12
    have c12b1 : decide (0 ≤ t105) = true := decide_eq_true c12
    clear c12
    by_cases c13 : t105 ≤ (a0.size : Int)
    ·rw [if_pos c13] at H
     have c13b0 := eq_true c13
     have c13b1 : decide (t105 ≤ (a0.size : Int)) = true := decide_eq_true c13
     clear c13
     obtain ⟨js14, hjs14⟩ : ∃ z_ : ByteArray, (a0.extract (t105 : Int).toNat a0.size) = z_ := ⟨_, rfl⟩
     replace H : (if (js14.size : Int) ≥ 3 then (if 0 ≤ 3 then (if 3 ≤ (js14.size : Int) then ((spec_folds.f kj2 (js14.extract 0 3) (⟨#[105, 110, 102]⟩ : ByteArray)).bind fun t106 => (if t106 = true then (some (wrap64 (t105 + 3))) else ((spec_folds.f kj2 (js14.extract 0 3) (⟨#[110, 97, 110]⟩ : ByteArray)).bind fun t107 => (if t107 = true then (some (wrap64 (t105 + 3))) else (some 0))))) else (none)) else (none)) else (some 0)) = some r := by first | (rw [hjs14] at H; exact H) | (simp only [hjs14] at H ⊢; exact H)
     by_cases c15 : (js14.size : Int) ≥ 3
     ·rw [if_pos c15] at H
      have c15b0 : decide (3 ≤ (js14.size : Int)) = true := decide_eq_true c15
      have c15b1 : decide (3 ≤ js14.size) = true := decide_eq_true (by omega)
      clear c15
      by_cases c16 : 0 ≤ 3
      ·rw [if_pos c16] at H
       have c16b0 := eq_true c16
       have c16b1 : decide (0 ≤ 3) = true := decide_eq_true c16
       clear c16
       by_cases c17 : 3 ≤ (js14.size : Int)
       ·rw [if_pos c17] at H
        have c17b0 := eq_true c17
        have c17b1 : decide (3 ≤ (js14.size : Int)) = true := decide_eq_true c17
        clear c17
        obtain ⟨js18, hjs18⟩ : ∃ z_ : ByteArray, (js14.extract 0 3) = z_ := ⟨_, rfl⟩
        replace H : ((spec_folds.f kj2 js18 (⟨#[105, 110, 102]⟩ : ByteArray)).bind fun t106 => (if t106 = true then (some (wrap64 (t105 + 3))) else ((spec_folds.f kj2 js18 (⟨#[110, 97, 110]⟩ : ByteArray)).bind fun t107 => (if t107 = true then (some (wrap64 (t105 + 3))) else (some 0))))) = some r := by first | (rw [hjs18] at H; exact H) | (simp only [hjs18] at H ⊢; exact H)
        replace H := Option.bind_eq_some_iff.mp H
        obtain ⟨t106, A190, H⟩ := H
        replace H : (if t106 = true then (some (wrap64 (t105 + 3))) else ((spec_folds.f kj2 js18 (⟨#[110, 97, 110]⟩ : ByteArray)).bind fun t107 => (if t107 = true then (some (wrap64 (t105 + 3))) else (some 0)))) = some r := H
        have A19 := Aside0.mk A190
        clear A190
        by_cases c20 : t106 = true
        ·subst c20
         have H1 : (some (wrap64 (t105 + 3))) = some r := by rw [if_pos rfl] at H; exact H
         clear H
         have H := H1
         clear H1
         obtain rfl := Option.some.inj H
         try have hcs21 := fun W_ : World => run_slice_string_l (P := Tryd.prog) W_ 9 a0 Tryd.underlying9 .i64 t105 (of_decide_eq_true (by assumption)) (of_decide_eq_true (by assumption))
         (try simp only [hjs14] at hcs21)
         try have hcs22 := fun W_ : World => run_slice_string_h (P := Tryd.prog) W_ 9 js14 Tryd.underlying9 .i64 3 (by omega) (of_decide_eq_true (by assumption))
         (try simp only [hjs18] at hcs22)
         go_wp2_with (first | (go_at_call 68; (with_reducible refine (spec_folds.calls kj2 js18 (⟨#[105, 110, 102]⟩ : ByteArray) true _ A19.out).mono ?_); rintro e w' ⟨rfl, ⟨nd, rfl⟩⟩))
         go_ret
         exact ⟨by first | rfl | (simp; done) | (simp [*]; done), by repeat (first | exact Drawn0.refl _ | apply Drawn0.step)⟩
        replace c20 := Bool.eq_false_iff.mpr c20
        subst c20
        have H1 : ((spec_folds.f kj2 js18 (⟨#[110, 97, 110]⟩ : ByteArray)).bind fun t107 => (if t107 = true then (some (wrap64 (t105 + 3))) else (some 0))) = some r := by rw [if_neg (show ¬ (false = true) by decide)] at H; exact H
        clear H
        have H := H1
        clear H1
        have c23b0 := eq_true (of_decide_eq_true (by assumption) : 0 ≤ 3)
        have c24b0 := eq_true (of_decide_eq_true (by assumption) : 3 ≤ (js14.size : Int))
        replace H := Option.bind_eq_some_iff.mp H
        obtain ⟨t107, A250, H⟩ := H
        replace H : (if t107 = true then (some (wrap64 (t105 + 3))) else (some 0)) = some r := H
        have A25 := Aside0.mk A250
        clear A250
        by_cases c26 : t107 = true
        ·subst c26
         have H1 : (some (wrap64 (t105 + 3))) = some r := by rw [if_pos rfl] at H; exact H
         clear H
         have H := H1
         clear H1
         obtain rfl := Option.some.inj H
         try have hcs27 := fun W_ : World => run_slice_string_l (P := Tryd.prog) W_ 9 a0 Tryd.underlying9 .i64 t105 (of_decide_eq_true (by assumption)) (of_decide_eq_true (by assumption))
         (try simp only [hjs14] at hcs27)
         try have hcs28 := fun W_ : World => run_slice_string_h (P := Tryd.prog) W_ 9 js14 Tryd.underlying9 .i64 3 (by omega) (of_decide_eq_true (by assumption))
         (try simp only [hjs18] at hcs28)
         go_wp2_with (first | (go_at_call 68; (with_reducible refine (spec_folds.calls kj2 js18 (⟨#[105, 110, 102]⟩ : ByteArray) false _ A19.out).mono ?_); rintro e w' ⟨rfl, ⟨nd, rfl⟩⟩; try have hcs29 := fun W_ : World => run_slice_string_h (P := Tryd.prog) W_ 9 js14 Tryd.underlying9 .i64 3 (by omega) (of_decide_eq_true (by assumption))) | (go_at_call 68; (with_reducible refine (spec_folds.calls kj2 js18 (⟨#[110, 97, 110]⟩ : ByteArray) true _ A25.out).mono ?_); rintro e w' ⟨rfl, ⟨nd, rfl⟩⟩))
         go_ret
         exact ⟨by first | rfl | (simp; done) | (simp [*]; done), by repeat (first | exact Drawn0.refl _ | apply Drawn0.step)⟩
        replace c26 := Bool.eq_false_iff.mpr c26
        subst c26
        have H1 : (some 0) = some r := by rw [if_neg (show ¬ (false = true) by decide)] at H; exact H
        clear H
        have H := H1
        clear H1
        obtain rfl := Option.some.inj H
        try have hcs30 := fun W_ : World => run_slice_string_l (P := Tryd.prog) W_ 9 a0 Tryd.underlying9 .i64 t105 (of_decide_eq_true (by assumption)) (of_decide_eq_true (by assumption))
        (try simp only [hjs14] at hcs30)
        try have hcs31 := fun W_ : World => run_slice_string_h (P := Tryd.prog) W_ 9 js14 Tryd.underlying9 .i64 3 (by omega) (of_decide_eq_true (by assumption))
        (try simp only [hjs18] at hcs31)
        go_wp2_with (first | (go_at_call 68; (with_reducible refine (spec_folds.calls kj2 js18 (⟨#[105, 110, 102]⟩ : ByteArray) false _ A19.out).mono ?_); rintro e w' ⟨rfl, ⟨nd, rfl⟩⟩; try have hcs32 := fun W_ : World => run_slice_string_h (P := Tryd.prog) W_ 9 js14 Tryd.underlying9 .i64 3 (by omega) (of_decide_eq_true (by assumption))) | (go_at_call 68; (with_reducible refine (spec_folds.calls kj2 js18 (⟨#[110, 97, 110]⟩ : ByteArray) false _ A25.out).mono ?_); rintro e w' ⟨rfl, ⟨nd, rfl⟩⟩))
        go_ret
        exact ⟨by first | rfl | (simp; done) | (simp [*]; done), by repeat (first | exact Drawn0.refl _ | apply Drawn0.step)⟩
       rw [if_neg c17] at H
       exact absurd H (by simp)
      rw [if_neg c16] at H
      exact absurd H (by simp)
     rw [if_neg c15] at H
     have c15b0 : decide (3 ≤ (js14.size : Int)) = false := decide_eq_false c15
     have c15b1 : decide (3 ≤ js14.size) = false := decide_eq_false (by omega)
     clear c15
     obtain rfl := Option.some.inj H
     try have hcs33 := fun W_ : World => run_slice_string_l (P := Tryd.prog) W_ 9 a0 Tryd.underlying9 .i64 t105 (of_decide_eq_true (by assumption)) (of_decide_eq_true (by assumption))
     (try simp only [hjs14] at hcs33)
     go_wp2
     go_ret
     exact ⟨by first | rfl | (simp; done) | (simp [*]; done), by repeat (first | exact Drawn0.refl _ | apply Drawn0.step)⟩
    rw [if_neg c13] at H
    exact absurd H (by simp)
   rw [if_neg c12] at H
   exact absurd H (by simp)
end Go.Proofs.YtnajijaachgipaaDoor.PT
end
section
namespace Go.Proofs.YtnajijaachgipaaDoor.PT
open Go.RowKit Go.Proofs.YtnajijaachgipaaDoorW.PrintWords Go.Proofs.YtnajijaachgipaaDoorW.PrintLast Go.Proofs.YtnajijaachgipaaDoorW.PrintMore
attribute [local go_sem] max2_int min2_int max_two min_two max_three min_three max_four min_four   -- for this text's walks alone
set_option linter.unusedVariables false
set_option linter.unusedSimpArgs false
/-! ### functions that call each other: spec_fjList, spec_BeginFj -/
mutual
def spec_fjList.j0 : Nat → ByteArray → Int → Int → Int → ByteArray → Bool → Option (Int × ByteArray × List ByteArray × Bool × (List (S30)) × ByteArray × Bool)
 | 0, _, _, _, _, _, _ => none
 | k + 1, x0, x1, x8, x110000, x110001, x110003 => if 1 ≤ (x0.size : Int) then ((spec_skipped.f k (x0.extract 1 x0.size)).bind fun t110 => (if t110.toList = ([] : List UInt8) then (spec_fjList.j1 k t110 x1 x8 false x110000 x110001 x110003) else (if 0 < (t110.size : Int) then (spec_fjList.j1 k t110 x1 x8 ((bt t110 0) == x8) x110000 x110001 x110003) else (none)))) else (none)
def spec_fjList.j1 : Nat → ByteArray → Int → Int → Bool → Int → ByteArray → Bool → Option (Int × ByteArray × List ByteArray × Bool × (List (S30)) × ByteArray × Bool)
 | 0, _, _, _, _, _, _, _ => none
 | k + 1, x0, x1, x8, x33, x110000, x110001, x110003 => if x33 = true then (if 1 ≤ (x0.size : Int) then (some (x110000, x110001, ([] : List ByteArray), x110003, ([] : List (S30)), x0.extract 1 x0.size, true)) else (none)) else (spec_fjList.l0 k x0 x1 x8 x110000 x110001 ([] : List ByteArray) x110003 ([] : List (S30)))
def spec_fjList.l0 : Nat → ByteArray → Int → Int → Int → ByteArray → List ByteArray → Bool → List (S30) → Option (Int × ByteArray × List ByteArray × Bool × (List (S30)) × ByteArray × Bool)
 | 0, _, _, _, _, _, _, _, _ => none
 | k + 1, x0, x1, x8, x110000, x110001, x110002, x110003, x110004 => if x110000 = 6 then ((spec_fjName.f k x0).bind fun bt111 => (if bt111.2.2 = true then (if x110002.length < 8796093022208 then (spec_fjList.j3 k bt111.2.1 x1 x8 x110000 x110001 (x110002 ++ [bt111.1]) x110003 x110004) else (none)) else (some (0, (⟨#[]⟩ : ByteArray), ([] : List ByteArray), false, ([] : List (S30)), (⟨#[]⟩ : ByteArray), false)))) else (spec_fjList.j3 k x0 x1 x8 x110000 x110001 x110002 x110003 x110004)
def spec_fjList.j3 : Nat → ByteArray → Int → Int → Int → ByteArray → List ByteArray → Bool → List (S30) → Option (Int × ByteArray × List ByteArray × Bool × (List (S30)) × ByteArray × Bool)
 | 0, _, _, _, _, _, _, _, _ => none
 | k + 1, x0, x1, x8, x110000, x110001, x110002, x110003, x110004 => (spec_BeginFj.f k x0 (wrap64 (x1 + 1))).bind fun bt117 => ((spec_skipped.f k bt117.2.2.2.2.2.1).bind fun t129 => (if bt117.2.2.2.2.2.2 = true then (if t129.toList = ([] : List UInt8) then (spec_fjList.j4 k t129 x1 x8 true x110000 x110001 x110002 x110003 x110004 bt117.1 bt117.2.1 bt117.2.2.1 bt117.2.2.2.1 bt117.2.2.2.2.1) else (if 0 < (t129.size : Int) then (if (bt t129 0) = 44 then (spec_fjList.j4 k t129 x1 x8 false x110000 x110001 x110002 x110003 x110004 bt117.1 bt117.2.1 bt117.2.2.1 bt117.2.2.2.1 bt117.2.2.2.2.1) else (spec_fjList.j4 k t129 x1 x8 ((bt t129 0) != x8) x110000 x110001 x110002 x110003 x110004 bt117.1 bt117.2.1 bt117.2.2.1 bt117.2.2.2.1 bt117.2.2.2.2.1)) else (none))) else (spec_fjList.j4 k t129 x1 x8 true x110000 x110001 x110002 x110003 x110004 bt117.1 bt117.2.1 bt117.2.2.1 bt117.2.2.2.1 bt117.2.2.2.2.1)))
def spec_fjList.j4 : Nat → ByteArray → Int → Int → Bool → Int → ByteArray → List ByteArray → Bool → List (S30) → Int → ByteArray → List ByteArray → Bool → List (S30) → Option (Int × ByteArray × List ByteArray × Bool × (List (S30)) × ByteArray × Bool)
 | 0, _, _, _, _, _, _, _, _, _, _, _, _, _, _ => none
 | k + 1, x0, x1, x8, x82, x110000, x110001, x110002, x110003, x110004, x129000, x129001, x129002, x129003, x129004 => if x82 = true then (some (0, (⟨#[]⟩ : ByteArray), ([] : List ByteArray), false, ([] : List (S30)), (⟨#[]⟩ : ByteArray), false)) else (if x110004.length < 1759218604441 then ((some (x110004 ++ [(⟨x129000, x129001, x129002, x129003, x129004⟩ : S30)] : List (S30))).bind fun y130 => (if 0 < (x0.size : Int) then (if (bt x0 0) = x8 then (if 1 ≤ (x0.size : Int) then (some (x110000, x110001, x110002, x110003, y130, x0.extract 1 x0.size, true)) else (none)) else (if 1 ≤ (x0.size : Int) then ((spec_skipped.f k (x0.extract 1 x0.size)).bind fun t133 => (spec_fjList.l0 k t133 x1 x8 x110000 x110001 x110002 x110003 y130)) else (none))) else (none))) else (none))
def spec_fjList.f : Nat → ByteArray → Int → Option (Int × ByteArray × List ByteArray × Bool × (List (S30)) × ByteArray × Bool)
 | 0, _, _ => none
 | k + 1, a0, a1 => if 0 < (a0.size : Int) then (if (bt a0 0) = 123 then (spec_fjList.j0 k a0 a1 (((bt a0 0) + 2) % 256) 6 (⟨#[]⟩ : ByteArray) false) else (spec_fjList.j0 k a0 a1 (((bt a0 0) + 2) % 256) 5 (⟨#[]⟩ : ByteArray) false)) else (none)
def spec_BeginFj.j0 : Nat → ByteArray → Int → Bool → Option (Int × ByteArray × List ByteArray × Bool × (List (S30)) × ByteArray × Bool)
 | 0, _, _, _ => none
 | k + 1, x0, x1, x17 => if x17 = true then (some (0, (⟨#[]⟩ : ByteArray), ([] : List ByteArray), false, ([] : List (S30)), (⟨#[]⟩ : ByteArray), false)) else (if 0 < (x0.size : Int) then (if (bt x0 0) = 123 then (spec_BeginFj.j1 k x0 x1 (bt x0 0) ((bt x0 0) == 123)) else (spec_BeginFj.j1 k x0 x1 (bt x0 0) ((bt x0 0) == 91))) else (none))
def spec_BeginFj.j1 : Nat → ByteArray → Int → Int → Bool → Option (Int × ByteArray × List ByteArray × Bool × (List (S30)) × ByteArray × Bool)
 | 0, _, _, _, _ => none
 | k + 1, x0, x1, x20, x21 => if x21 = true then ((spec_fjList.f k x0 x1).bind fun bt135 => (some (bt135.1, bt135.2.1, bt135.2.2.1, bt135.2.2.2.1, bt135.2.2.2.2.1, bt135.2.2.2.2.2.1, bt135.2.2.2.2.2.2))) else (if x20 = 34 then (if 1 ≤ (x0.size : Int) then ((spec_Closing.f k (x0.extract 1 x0.size)).bind fun t146 => (if t146 < 0 then (some (0, (⟨#[]⟩ : ByteArray), ([] : List ByteArray), false, ([] : List (S30)), (⟨#[]⟩ : ByteArray), false)) else (if 1 ≤ (wrap64 (t146 + 1)) then (if (wrap64 (t146 + 1)) ≤ (x0.size : Int) then (if 0 ≤ (wrap64 (t146 + 2)) then (if (wrap64 (t146 + 2)) ≤ (x0.size : Int) then (some (4, x0.extract 1 ((wrap64 (t146 + 1)) : Int).toNat, ([] : List ByteArray), false, ([] : List (S30)), x0.extract ((wrap64 (t146 + 2)) : Int).toNat x0.size, true)) else (none)) else (none)) else (none)) else (none)))) else (none)) else ((some (([(⟨#[110, 117, 108, 108]⟩ : ByteArray), (⟨#[102, 97, 108, 115, 101]⟩ : ByteArray), (⟨#[116, 114, 117, 101]⟩ : ByteArray)] : List ByteArray) : List ByteArray)).bind fun y147 => (spec_BeginFj.l0 k x0 y147 (y147.length : Int) 0)))
def spec_BeginFj.l0 : Nat → ByteArray → List ByteArray → Int → Int → Option (Int × ByteArray × List ByteArray × Bool × (List (S30)) × ByteArray × Bool)
 | 0, _, _, _, _ => none
 | k + 1, x0, x8, x49, x50 => if x50 < x49 then (if 0 ≤ x50 then (if x50 < (x8.length : Int) then (if (x0.size : Int) ≥ ((rdOf ByteArray.empty x8 x50).size : Int) then (if 0 ≤ ((rdOf ByteArray.empty x8 x50).size : Int) then (if ((rdOf ByteArray.empty x8 x50).size : Int) ≤ (x0.size : Int) then (if (x0.extract 0 (((rdOf ByteArray.empty x8 x50).size : Int) : Int).toNat).toList = (rdOf ByteArray.empty x8 x50).toList then (some (x50, (⟨#[]⟩ : ByteArray), ([] : List ByteArray), false, ([] : List (S30)), x0.extract (((rdOf ByteArray.empty x8 x50).size : Int) : Int).toNat x0.size, true)) else (spec_BeginFj.l0 k x0 x8 x49 (wrap64 (x50 + 1)))) else (none)) else (none)) else (spec_BeginFj.l0 k x0 x8 x49 (wrap64 (x50 + 1)))) else (none)) else (none)) else ((spec_fjNumber.f k x0).bind fun t151 => (if 0 ≤ t151 then (if t151 ≤ (x0.size : Int) then (some (3, x0.extract 0 (t151 : Int).toNat, ([] : List ByteArray), false, ([] : List (S30)), x0.extract (t151 : Int).toNat x0.size, decide (t151 > 0))) else (none)) else (none)))
def spec_BeginFj.f : Nat → ByteArray → Int → Option (Int × ByteArray × List ByteArray × Bool × (List (S30)) × ByteArray × Bool)
 | 0, _, _ => none
 | k + 1, a0, a1 => if a0.toList = ([] : List UInt8) then (spec_BeginFj.j0 k a0 a1 true) else (spec_BeginFj.j0 k a0 a1 (decide (a1 ≥ 300)))
end
theorem spec_BeginFj.scc_mono_l : ∀ k, (∀ y0 y1, LeO (spec_fjList.f k y0 y1) (spec_fjList.f (k + 1) y0 y1)) ∧ (∀ y0 y1 y2 y3 y4 y5, LeO (spec_fjList.j0 k y0 y1 y2 y3 y4 y5) (spec_fjList.j0 (k + 1) y0 y1 y2 y3 y4 y5)) ∧ (∀ y0 y1 y2 y3 y4 y5 y6, LeO (spec_fjList.j1 k y0 y1 y2 y3 y4 y5 y6) (spec_fjList.j1 (k + 1) y0 y1 y2 y3 y4 y5 y6)) ∧ (∀ y0 y1 y2 y3 y4 y5 y6 y7, LeO (spec_fjList.l0 k y0 y1 y2 y3 y4 y5 y6 y7) (spec_fjList.l0 (k + 1) y0 y1 y2 y3 y4 y5 y6 y7)) ∧ (∀ y0 y1 y2 y3 y4 y5 y6 y7, LeO (spec_fjList.j3 k y0 y1 y2 y3 y4 y5 y6 y7) (spec_fjList.j3 (k + 1) y0 y1 y2 y3 y4 y5 y6 y7)) ∧ (∀ y0 y1 y2 y3 y4 y5 y6 y7 y8 y9 y10 y11 y12 y13, LeO (spec_fjList.j4 k y0 y1 y2 y3 y4 y5 y6 y7 y8 y9 y10 y11 y12 y13) (spec_fjList.j4 (k + 1) y0 y1 y2 y3 y4 y5 y6 y7 y8 y9 y10 y11 y12 y13)) ∧ (∀ y0 y1, LeO (spec_BeginFj.f k y0 y1) (spec_BeginFj.f (k + 1) y0 y1)) ∧ (∀ y0 y1 y2, LeO (spec_BeginFj.j0 k y0 y1 y2) (spec_BeginFj.j0 (k + 1) y0 y1 y2)) ∧ (∀ y0 y1 y2 y3, LeO (spec_BeginFj.j1 k y0 y1 y2 y3) (spec_BeginFj.j1 (k + 1) y0 y1 y2 y3)) ∧ (∀ y0 y1 y2 y3, LeO (spec_BeginFj.l0 k y0 y1 y2 y3) (spec_BeginFj.l0 (k + 1) y0 y1 y2 y3))
 | 0 => ⟨fun _ _ r h => by simp [spec_fjList.f] at h, fun _ _ _ _ _ _ r h => by simp [spec_fjList.j0] at h, fun _ _ _ _ _ _ _ r h => by simp [spec_fjList.j1] at h, fun _ _ _ _ _ _ _ _ r h => by simp [spec_fjList.l0] at h, fun _ _ _ _ _ _ _ _ r h => by simp [spec_fjList.j3] at h, fun _ _ _ _ _ _ _ _ _ _ _ _ _ _ r h => by simp [spec_fjList.j4] at h, fun _ _ r h => by simp [spec_BeginFj.f] at h, fun _ _ _ r h => by simp [spec_BeginFj.j0] at h, fun _ _ _ _ r h => by simp [spec_BeginFj.j1] at h, fun _ _ _ _ r h => by simp [spec_BeginFj.l0] at h⟩
 | k + 1 => by
  obtain ⟨ih0, ih1, ih2, ih3, ih4, ih5, ih6, ih7, ih8, ih9⟩ := spec_BeginFj.scc_mono_l k
  refine ⟨?_, ?_, ?_, ?_, ?_, ?_, ?_, ?_, ?_, ?_⟩
  ·intro y0 y1
   unfold spec_fjList.f
   repeat' first
   | (with_reducible exact ih0 _ _)
   | (with_reducible exact ih1 _ _ _ _ _ _)
   | (with_reducible exact ih2 _ _ _ _ _ _ _)
   | (with_reducible exact ih3 _ _ _ _ _ _ _ _)
   | (with_reducible exact ih4 _ _ _ _ _ _ _ _)
   | (with_reducible exact ih5 _ _ _ _ _ _ _ _ _ _ _ _ _ _)
   | (with_reducible exact ih6 _ _)
   | (with_reducible exact ih7 _ _ _)
   | (with_reducible exact ih8 _ _ _ _)
   | (with_reducible exact ih9 _ _ _ _)
   | (with_reducible exact spec_Closing.mono _ _)
   | (with_reducible exact spec_fjName.mono _ _)
   | (with_reducible exact spec_fjNumber.mono _ _)
   | (with_reducible exact spec_skipped.mono _ _)
   | (with_reducible exact LeO.refl _)
   | (with_reducible exact LeO.none _)
   | (with_reducible refine LeO.ite ?_ ?_)
   | (with_reducible refine LeO.bind ?_ (fun _ => ?_))
   | exact ih0 _ _
   | exact ih1 _ _ _ _ _ _
   | exact ih2 _ _ _ _ _ _ _
   | exact ih3 _ _ _ _ _ _ _ _
   | exact ih4 _ _ _ _ _ _ _ _
   | exact ih5 _ _ _ _ _ _ _ _ _ _ _ _ _ _
   | exact ih6 _ _
   | exact ih7 _ _ _
   | exact ih8 _ _ _ _
   | exact ih9 _ _ _ _
   | exact spec_Closing.mono _ _
   | exact spec_fjName.mono _ _
   | exact spec_fjNumber.mono _ _
   | exact spec_skipped.mono _ _
   | exact LeO.none _
   | refine LeO.ite ?_ ?_
   | refine LeO.bind ?_ (fun _ => ?_)
  ·intro y0 y1 y2 y3 y4 y5
   unfold spec_fjList.j0
   repeat' first
   | (with_reducible exact ih0 _ _)
   | (with_reducible exact ih1 _ _ _ _ _ _)
   | (with_reducible exact ih2 _ _ _ _ _ _ _)
   | (with_reducible exact ih3 _ _ _ _ _ _ _ _)
   | (with_reducible exact ih4 _ _ _ _ _ _ _ _)
   | (with_reducible exact ih5 _ _ _ _ _ _ _ _ _ _ _ _ _ _)
   | (with_reducible exact ih6 _ _)
   | (with_reducible exact ih7 _ _ _)
   | (with_reducible exact ih8 _ _ _ _)
   | (with_reducible exact ih9 _ _ _ _)
   | (with_reducible exact spec_Closing.mono _ _)
   | (with_reducible exact spec_fjName.mono _ _)
   | (with_reducible exact spec_fjNumber.mono _ _)
   | (with_reducible exact spec_skipped.mono _ _)
   | (with_reducible exact LeO.refl _)
   | (with_reducible exact LeO.none _)
   | (with_reducible refine LeO.ite ?_ ?_)
   | (with_reducible refine LeO.bind ?_ (fun _ => ?_))
   | exact ih0 _ _
   | exact ih1 _ _ _ _ _ _
   | exact ih2 _ _ _ _ _ _ _
   | exact ih3 _ _ _ _ _ _ _ _
   | exact ih4 _ _ _ _ _ _ _ _
   | exact ih5 _ _ _ _ _ _ _ _ _ _ _ _ _ _
   | exact ih6 _ _
   | exact ih7 _ _ _
   | exact ih8 _ _ _ _
   | exact ih9 _ _ _ _
   | exact spec_Closing.mono _ _
   | exact spec_fjName.mono _ _
   | exact spec_fjNumber.mono _ _
   | exact spec_skipped.mono _ _
   | exact LeO.none _
   | refine LeO.ite ?_ ?_
   | refine LeO.bind ?_ (fun _ => ?_)
  ·intro y0 y1 y2 y3 y4 y5 y6
   unfold spec_fjList.j1
   repeat' first
   | (with_reducible exact ih0 _ _)
   | (with_reducible exact ih1 _ _ _ _ _ _)
   | (with_reducible exact ih2 _ _ _ _ _ _ _)
   | (with_reducible exact ih3 _ _ _ _ _ _ _ _)
   | (with_reducible exact ih4 _ _ _ _ _ _ _ _)
   | (with_reducible exact ih5 _ _ _ _ _ _ _ _ _ _ _ _ _ _)
   | (with_reducible exact ih6 _ _)
   | (with_reducible exact ih7 _ _ _)
   | (with_reducible exact ih8 _ _ _ _)
   | (with_reducible exact ih9 _ _ _ _)
   | (with_reducible exact spec_Closing.mono _ _)
   | (with_reducible exact spec_fjName.mono _ _)
   | (with_reducible exact spec_fjNumber.mono _ _)
   | (with_reducible exact spec_skipped.mono _ _)
   | (with_reducible exact LeO.refl _)
   | (with_reducible exact LeO.none _)
   | (with_reducible refine LeO.ite ?_ ?_)
   | (with_reducible refine LeO.bind ?_ (fun _ => ?_))
   | exact ih0 _ _
   | exact ih1 _ _ _ _ _ _
   | exact ih2 _ _ _ _ _ _ _
   | exact ih3 _ _ _ _ _ _ _ _
   | exact ih4 _ _ _ _ _ _ _ _
   | exact ih5 _ _ _ _ _ _ _ _ _ _ _ _ _ _
   | exact ih6 _ _
   | exact ih7 _ _ _
   | exact ih8 _ _ _ _
   | exact ih9 _ _ _ _
   | exact spec_Closing.mono _ _
   | exact spec_fjName.mono _ _
   | exact spec_fjNumber.mono _ _
   | exact spec_skipped.mono _ _
   | exact LeO.none _
   | refine LeO.ite ?_ ?_
   | refine LeO.bind ?_ (fun _ => ?_)
  ·intro y0 y1 y2 y3 y4 y5 y6 y7
   unfold spec_fjList.l0
   repeat' first
   | (with_reducible exact ih0 _ _)
   | (with_reducible exact ih1 _ _ _ _ _ _)
   | (with_reducible exact ih2 _ _ _ _ _ _ _)
   | (with_reducible exact ih3 _ _ _ _ _ _ _ _)
   | (with_reducible exact ih4 _ _ _ _ _ _ _ _)
   | (with_reducible exact ih5 _ _ _ _ _ _ _ _ _ _ _ _ _ _)
   | (with_reducible exact ih6 _ _)
   | (with_reducible exact ih7 _ _ _)
   | (with_reducible exact ih8 _ _ _ _)
   | (with_reducible exact ih9 _ _ _ _)
   | (with_reducible exact spec_Closing.mono _ _)
   | (with_reducible exact spec_fjName.mono _ _)
   | (with_reducible exact spec_fjNumber.mono _ _)
   | (with_reducible exact spec_skipped.mono _ _)
   | (with_reducible exact LeO.refl _)
   | (with_reducible exact LeO.none _)
   | (with_reducible refine LeO.ite ?_ ?_)
   | (with_reducible refine LeO.bind ?_ (fun _ => ?_))
   | exact ih0 _ _
   | exact ih1 _ _ _ _ _ _
   | exact ih2 _ _ _ _ _ _ _
   | exact ih3 _ _ _ _ _ _ _ _
   | exact ih4 _ _ _ _ _ _ _ _
   | exact ih5 _ _ _ _ _ _ _ _ _ _ _ _ _ _
   | exact ih6 _ _
   | exact ih7 _ _ _
   | exact ih8 _ _ _ _
   | exact ih9 _ _ _ _
   | exact spec_Closing.mono _ _
   | exact spec_fjName.mono _ _
   | exact spec_fjNumber.mono _ _
   | exact spec_skipped.mono _ _
   | exact LeO.none _
   | refine LeO.ite ?_ ?_
   | refine LeO.bind ?_ (fun _ => ?_)
  ·intro y0 y1 y2 y3 y4 y5 y6 y7
   unfold spec_fjList.j3
   repeat' first
   | (with_reducible exact ih0 _ _)
   | (with_reducible exact ih1 _ _ _ _ _ _)
   | (with_reducible exact ih2 _ _ _ _ _ _ _)
   | (with_reducible exact ih3 _ _ _ _ _ _ _ _)
   | (with_reducible exact ih4 _ _ _ _ _ _ _ _)
   | (with_reducible exact ih5 _ _ _ _ _ _ _ _ _ _ _ _ _ _)
   | (with_reducible exact ih6 _ _)
   | (with_reducible exact ih7 _ _ _)
   | (with_reducible exact ih8 _ _ _ _)
   | (with_reducible exact ih9 _ _ _ _)
   | (with_reducible exact spec_Closing.mono _ _)
   | (with_reducible exact spec_fjName.mono _ _)
   | (with_reducible exact spec_fjNumber.mono _ _)
   | (with_reducible exact spec_skipped.mono _ _)
   | (with_reducible exact LeO.refl _)
   | (with_reducible exact LeO.none _)
   | (with_reducible refine LeO.ite ?_ ?_)
   | (with_reducible refine LeO.bind ?_ (fun _ => ?_))
   | exact ih0 _ _
   | exact ih1 _ _ _ _ _ _
   | exact ih2 _ _ _ _ _ _ _
   | exact ih3 _ _ _ _ _ _ _ _
   | exact ih4 _ _ _ _ _ _ _ _
   | exact ih5 _ _ _ _ _ _ _ _ _ _ _ _ _ _
   | exact ih6 _ _
   | exact ih7 _ _ _
   | exact ih8 _ _ _ _
   | exact ih9 _ _ _ _
   | exact spec_Closing.mono _ _
   | exact spec_fjName.mono _ _
   | exact spec_fjNumber.mono _ _
   | exact spec_skipped.mono _ _
   | exact LeO.none _
   | refine LeO.ite ?_ ?_
   | refine LeO.bind ?_ (fun _ => ?_)
  ·intro y0 y1 y2 y3 y4 y5 y6 y7 y8 y9 y10 y11 y12 y13
   unfold spec_fjList.j4
   repeat' first
   | (with_reducible exact ih0 _ _)
   | (with_reducible exact ih1 _ _ _ _ _ _)
   | (with_reducible exact ih2 _ _ _ _ _ _ _)
   | (with_reducible exact ih3 _ _ _ _ _ _ _ _)
   | (with_reducible exact ih4 _ _ _ _ _ _ _ _)
   | (with_reducible exact ih5 _ _ _ _ _ _ _ _ _ _ _ _ _ _)
   | (with_reducible exact ih6 _ _)
   | (with_reducible exact ih7 _ _ _)
   | (with_reducible exact ih8 _ _ _ _)
   | (with_reducible exact ih9 _ _ _ _)
   | (with_reducible exact spec_Closing.mono _ _)
   | (with_reducible exact spec_fjName.mono _ _)
   | (with_reducible exact spec_fjNumber.mono _ _)
   | (with_reducible exact spec_skipped.mono _ _)
   | (with_reducible exact LeO.refl _)
   | (with_reducible exact LeO.none _)
   | (with_reducible refine LeO.ite ?_ ?_)
   | (with_reducible refine LeO.bind ?_ (fun _ => ?_))
   | exact ih0 _ _
   | exact ih1 _ _ _ _ _ _
   | exact ih2 _ _ _ _ _ _ _
   | exact ih3 _ _ _ _ _ _ _ _
   | exact ih4 _ _ _ _ _ _ _ _
   | exact ih5 _ _ _ _ _ _ _ _ _ _ _ _ _ _
   | exact ih6 _ _
   | exact ih7 _ _ _
   | exact ih8 _ _ _ _
   | exact ih9 _ _ _ _
   | exact spec_Closing.mono _ _
   | exact spec_fjName.mono _ _
   | exact spec_fjNumber.mono _ _
   | exact spec_skipped.mono _ _
   | exact LeO.none _
   | refine LeO.ite ?_ ?_
   | refine LeO.bind ?_ (fun _ => ?_)
  ·intro y0 y1
   unfold spec_BeginFj.f
   repeat' first
   | (with_reducible exact ih0 _ _)
   | (with_reducible exact ih1 _ _ _ _ _ _)
   | (with_reducible exact ih2 _ _ _ _ _ _ _)
   | (with_reducible exact ih3 _ _ _ _ _ _ _ _)
   | (with_reducible exact ih4 _ _ _ _ _ _ _ _)
   | (with_reducible exact ih5 _ _ _ _ _ _ _ _ _ _ _ _ _ _)
   | (with_reducible exact ih6 _ _)
   | (with_reducible exact ih7 _ _ _)
   | (with_reducible exact ih8 _ _ _ _)
   | (with_reducible exact ih9 _ _ _ _)
   | (with_reducible exact spec_Closing.mono _ _)
   | (with_reducible exact spec_fjName.mono _ _)
   | (with_reducible exact spec_fjNumber.mono _ _)
   | (with_reducible exact spec_skipped.mono _ _)
   | (with_reducible exact LeO.refl _)
   | (with_reducible exact LeO.none _)
   | (with_reducible refine LeO.ite ?_ ?_)
   | (with_reducible refine LeO.bind ?_ (fun _ => ?_))
   | exact ih0 _ _
   | exact ih1 _ _ _ _ _ _
   | exact ih2 _ _ _ _ _ _ _
   | exact ih3 _ _ _ _ _ _ _ _
   | exact ih4 _ _ _ _ _ _ _ _
   | exact ih5 _ _ _ _ _ _ _ _ _ _ _ _ _ _
   | exact ih6 _ _
   | exact ih7 _ _ _
   | exact ih8 _ _ _ _
   | exact ih9 _ _ _ _
   | exact spec_Closing.mono _ _
   | exact spec_fjName.mono _ _
   | exact spec_fjNumber.mono _ _
   | exact spec_skipped.mono _ _
   | exact LeO.none _
   | refine LeO.ite ?_ ?_
   | refine LeO.bind ?_ (fun _ => ?_)
  ·intro y0 y1 y2
   unfold spec_BeginFj.j0
   repeat' first
   | (with_reducible exact ih0 _ _)
   | (with_reducible exact ih1 _ _ _ _ _ _)
   | (with_reducible exact ih2 _ _ _ _ _ _ _)
   | (with_reducible exact ih3 _ _ _ _ _ _ _ _)
   | (with_reducible exact ih4 _ _ _ _ _ _ _ _)
   | (with_reducible exact ih5 _ _ _ _ _ _ _ _ _ _ _ _ _ _)
   | (with_reducible exact ih6 _ _)
   | (with_reducible exact ih7 _ _ _)
   | (with_reducible exact ih8 _ _ _ _)
   | (with_reducible exact ih9 _ _ _ _)
   | (with_reducible exact spec_Closing.mono _ _)
   | (with_reducible exact spec_fjName.mono _ _)
   | (with_reducible exact spec_fjNumber.mono _ _)
   | (with_reducible exact spec_skipped.mono _ _)
   | (with_reducible exact LeO.refl _)
   | (with_reducible exact LeO.none _)
   | (with_reducible refine LeO.ite ?_ ?_)
   | (with_reducible refine LeO.bind ?_ (fun _ => ?_))
   | exact ih0 _ _
   | exact ih1 _ _ _ _ _ _
   | exact ih2 _ _ _ _ _ _ _
   | exact ih3 _ _ _ _ _ _ _ _
   | exact ih4 _ _ _ _ _ _ _ _
   | exact ih5 _ _ _ _ _ _ _ _ _ _ _ _ _ _
   | exact ih6 _ _
   | exact ih7 _ _ _
   | exact ih8 _ _ _ _
   | exact ih9 _ _ _ _
   | exact spec_Closing.mono _ _
   | exact spec_fjName.mono _ _
   | exact spec_fjNumber.mono _ _
   | exact spec_skipped.mono _ _
   | exact LeO.none _
   | refine LeO.ite ?_ ?_
   | refine LeO.bind ?_ (fun _ => ?_)
  ·intro y0 y1 y2 y3
   unfold spec_BeginFj.j1
   repeat' first
   | (with_reducible exact ih0 _ _)
   | (with_reducible exact ih1 _ _ _ _ _ _)
   | (with_reducible exact ih2 _ _ _ _ _ _ _)
   | (with_reducible exact ih3 _ _ _ _ _ _ _ _)
   | (with_reducible exact ih4 _ _ _ _ _ _ _ _)
   | (with_reducible exact ih5 _ _ _ _ _ _ _ _ _ _ _ _ _ _)
   | (with_reducible exact ih6 _ _)
   | (with_reducible exact ih7 _ _ _)
   | (with_reducible exact ih8 _ _ _ _)
   | (with_reducible exact ih9 _ _ _ _)
   | (with_reducible exact spec_Closing.mono _ _)
   | (with_reducible exact spec_fjName.mono _ _)
   | (with_reducible exact spec_fjNumber.mono _ _)
   | (with_reducible exact spec_skipped.mono _ _)
   | (with_reducible exact LeO.refl _)
   | (with_reducible exact LeO.none _)
   | (with_reducible refine LeO.ite ?_ ?_)
   | (with_reducible refine LeO.bind ?_ (fun _ => ?_))
   | exact ih0 _ _
   | exact ih1 _ _ _ _ _ _
   | exact ih2 _ _ _ _ _ _ _
   | exact ih3 _ _ _ _ _ _ _ _
   | exact ih4 _ _ _ _ _ _ _ _
   | exact ih5 _ _ _ _ _ _ _ _ _ _ _ _ _ _
   | exact ih6 _ _
   | exact ih7 _ _ _
   | exact ih8 _ _ _ _
   | exact ih9 _ _ _ _
   | exact spec_Closing.mono _ _
   | exact spec_fjName.mono _ _
   | exact spec_fjNumber.mono _ _
   | exact spec_skipped.mono _ _
   | exact LeO.none _
   | refine LeO.ite ?_ ?_
   | refine LeO.bind ?_ (fun _ => ?_)
  intro y0 y1 y2 y3
  unfold spec_BeginFj.l0
  repeat' first
  | (with_reducible exact ih0 _ _)
  | (with_reducible exact ih1 _ _ _ _ _ _)
  | (with_reducible exact ih2 _ _ _ _ _ _ _)
  | (with_reducible exact ih3 _ _ _ _ _ _ _ _)
  | (with_reducible exact ih4 _ _ _ _ _ _ _ _)
  | (with_reducible exact ih5 _ _ _ _ _ _ _ _ _ _ _ _ _ _)
  | (with_reducible exact ih6 _ _)
  | (with_reducible exact ih7 _ _ _)
  | (with_reducible exact ih8 _ _ _ _)
  | (with_reducible exact ih9 _ _ _ _)
  | (with_reducible exact spec_Closing.mono _ _)
  | (with_reducible exact spec_fjName.mono _ _)
  | (with_reducible exact spec_fjNumber.mono _ _)
  | (with_reducible exact spec_skipped.mono _ _)
  | (with_reducible exact LeO.refl _)
  | (with_reducible exact LeO.none _)
  | (with_reducible refine LeO.ite ?_ ?_)
  | (with_reducible refine LeO.bind ?_ (fun _ => ?_))
  | exact ih0 _ _
  | exact ih1 _ _ _ _ _ _
  | exact ih2 _ _ _ _ _ _ _
  | exact ih3 _ _ _ _ _ _ _ _
  | exact ih4 _ _ _ _ _ _ _ _
  | exact ih5 _ _ _ _ _ _ _ _ _ _ _ _ _ _
  | exact ih6 _ _
  | exact ih7 _ _ _
  | exact ih8 _ _ _ _
  | exact ih9 _ _ _ _
  | exact spec_Closing.mono _ _
  | exact spec_fjName.mono _ _
  | exact spec_fjNumber.mono _ _
  | exact spec_skipped.mono _ _
  | exact LeO.none _
  | refine LeO.ite ?_ ?_
  | refine LeO.bind ?_ (fun _ => ?_)
theorem spec_fjList.mono : ∀ a0 a1 k, LeO (spec_fjList.f k a0 a1) (spec_fjList.f (k + 1) a0 a1) := by
 intro a0 a1 k
 obtain ⟨ih0, ih1, ih2, ih3, ih4, ih5, ih6, ih7, ih8, ih9⟩ := spec_BeginFj.scc_mono_l k
 exact ih0 a0 a1
theorem spec_BeginFj.mono : ∀ a0 a1 k, LeO (spec_BeginFj.f k a0 a1) (spec_BeginFj.f (k + 1) a0 a1) := by
 intro a0 a1 k
 obtain ⟨ih0, ih1, ih2, ih3, ih4, ih5, ih6, ih7, ih8, ih9⟩ := spec_BeginFj.scc_mono_l k
 exact ih6 a0 a1
end Go.Proofs.YtnajijaachgipaaDoor.PT
end
section
namespace Go.Proofs.YtnajijaachgipaaDoor.J
open Go.RowKit Go.Proofs.YtnajijaachgipaaDoor.PT Go.Proofs.YtnajijaachgipaaDoorW.PrintWords Go.Proofs.YtnajijaachgipaaDoorW.PrintLast
set_option linter.unusedSimpArgs false
set_option linter.unusedVariables false
/-- The offset of the mark that ends the string; o: an odd number of backslashes stands ahead. -/
def clos : Bool → List Int → Option Nat
 | _, [] => none
 | o, c :: l => if c = 34 ∧ o = false then some 0 else (clos (if c = 92 then !o else false) l).map (· + 1)
def par : Bool → List Int → Bool
 | o, [] => o
 | o, c :: l => par (if c = 92 then !o else false) l
theorem clos_none : ∀ {l : List Int} {o : Bool}, ix 34 l = none → clos o l = none
 | [], _, _ => rfl
 | c :: l, o, h => by
  rw [ix] at h
  by_cases hc : c = 34
  ·rw [if_pos hc] at h; cases h
  rw [if_neg hc, Option.map_eq_none_iff] at h
  rw [clos, if_neg (fun g => hc g.1), clos_none h]; rfl
theorem clos_some : ∀ {l : List Int} {n : Nat} {o : Bool}, ix 34 l = some n → clos o l = if par o (l.take n) = false then some n else (clos false (l.drop (n + 1))).map (· + (n + 1))
 | [], n, _, h => by cases h
 | c :: l, n, o, h => by
  rw [ix] at h
  by_cases hc : c = 34
  ·rw [if_pos hc] at h
   obtain rfl := Option.some.inj h
   subst hc
   rw [clos]
   cases o with
   | false => rw [if_pos ⟨rfl, rfl⟩]; rfl
   | true => rw [if_neg (by decide)]; rfl
  rw [if_neg hc] at h
  obtain ⟨m, hm, rfl⟩ := Option.map_eq_some_iff.1 h
  rw [clos, if_neg (fun g => hc g.1), List.take_succ_cons, par, List.drop_succ_cons]
  generalize (if c = 92 then !o else false) = o'
  rw [clos_some hm]
  by_cases hp : par o' (l.take m) = false
  ·rw [if_pos hp, if_pos hp]; rfl
  rw [if_neg hp, if_neg hp, Option.map_map]; rfl
theorem par_append : ∀ (a b : List Int) (o : Bool), par o (a ++ b) = par (par o a) b
 | [], _, _ => rfl
 | c :: a, b, o => by rw [List.cons_append, par, par, par_append a b]
theorem par_rep : ∀ (m : Nat) (o : Bool), par o (List.replicate m 92) = (o != (m % 2 == 1))
 | 0, o => by cases o <;> rfl
 | m + 1, o => by
  rw [List.replicate_succ, par, if_pos rfl, par_rep m]
  have : ((m + 1) % 2 == 1) = !(m % 2 == 1) := by
   rw [Bool.eq_iff_iff, Bool.not_eq_true', beq_iff_eq, beq_eq_false_iff_ne]; omega
  rw [this]
  cases o <;> cases (m % 2 == 1) <;> rfl
theorem par_last {a : List Int} {c : Int} (h : c ≠ 92) (o : Bool) : par o (a ++ [c]) = false := by
 rw [par_append, par, if_neg h]; rfl
theorem par_run {l : List Int} {n i : Nat} (hn : n ≤ l.length) (hi : i ≤ n) (hr : ∀ j, i ≤ j → j < n → l.getD j 0 = 92) (he : i = 0 ∨ l.getD (i - 1) 0 ≠ 92) :
  par false (l.take n) = ((n - i) % 2 == 1) := by
 have e : l.take n = l.take i ++ List.replicate (n - i) 92 := by
  apply List.ext_getElem?
  intro j
  by_cases hj : j < n
  ·rw [List.getElem?_take_of_lt hj]
   by_cases hj2 : j < i
   ·rw [List.getElem?_append_left (by rw [List.length_take]; omega), List.getElem?_take_of_lt hj2]
   rw [List.getElem?_append_right (by rw [List.length_take]; omega), List.length_take, List.getElem?_replicate, if_pos (by omega)]
   have := hr j (by omega) hj
   rw [List.getD_eq_getElem?_getD, List.getElem?_eq_getElem (by omega)] at this
   rw [List.getElem?_eq_getElem (by omega)]
   simpa using this
  rw [List.getElem?_eq_none (by rw [List.length_take]; omega), List.getElem?_eq_none]
  rw [List.length_append, List.length_take, List.length_replicate]; omega
 have e0 : par false (l.take i) = false := by
  rcases he with rfl | he
  ·rfl
  by_cases hz : i = 0
  ·subst hz; rfl
  have : l.take i = l.take (i - 1) ++ [l.getD (i - 1) 0] := by
   conv => lhs; rw [show i = (i - 1) + 1 by omega]
   rw [List.take_succ_eq_append_getElem (by omega), List.getD_eq_getElem?_getD, List.getElem?_eq_getElem (by omega)]; rfl
  rw [this]
  exact par_last he _
 rw [e, par_append, e0, par_rep]
 cases ((n - i) % 2 == 1) <;> rfl
theorem par_not {l : List Int} {n : Nat} (hn : n ≤ l.length) (he : n = 0 ∨ l.getD (n - 1) 0 ≠ 92) : par false (l.take n) = false := by
 rw [par_run hn (Nat.le_refl n) (fun j h1 h2 => by omega) he, Nat.sub_self]; rfl
/-! ### the reference -/
theorem closing_ev {s : ByteArray} (hs : s.size ≤ 4000) : ∀ (d i : Nat) (x : Int) (o : Bool), i + d = s.size → 0 ≤ x → x ≤ i → Int.tmod x 2 = (if o then 1 else 0) →
  Ev (fun k => spec_Closing.l0 k s x i) (match clos o ((bytesOf s).drop i) with | none => -1 | some n => ((i + n : Nat) : Int))
 | 0, i, x, o, hd, hx0, hx1, ho => by
  rw [List.drop_of_length_le (by rw [bytesOf_length]; omega), clos]
  exact ev_one fun k => by simp (disch := omega) only [spec_Closing.l0, if_neg]
 | d + 1, i, x, o, hd, hx0, hx1, ho => by
  have hi : i < (bytesOf s).length := by rw [bytesOf_length]; omega
  have hb : bt s (i : Int) = (bytesOf s)[i] := by rw [bt_nat, List.getD_eq_getElem?_getD, List.getElem?_eq_getElem hi]; rfl
  rw [List.drop_eq_getElem_cons hi, ← hb, clos]
  have hw : wrap64 ((i : Int) + 1) = ((i + 1 : Nat) : Int) := by rw [wr (by omega) (by omega)]; omega
  have hw2 : wrap64 (x + 1) = x + 1 := wr (by omega) (by omega)
  by_cases hc : bt s (i : Int) = 34 ∧ o = false
  ·rw [if_pos hc]
   have hq : (Int.tmod x 2 == 0) = true := by rw [ho, hc.2]; rfl
   refine Ev.step (f := fun k => spec_Closing.j1 k s x i true) (fun k => ?_) (ev_one fun k => ?_)
   ·simp (disch := omega) only [spec_Closing.l0, if_pos, hc.1, hq, if_true]
   simp only [spec_Closing.j1, if_true, Nat.add_zero]
  rw [if_neg hc]
  have st : Ev (fun k => spec_Closing.j1 k s x i false) (match (clos (if bt s (i : Int) = 92 then !o else false) ((bytesOf s).drop (i + 1))).map (· + 1) with | none => -1 | some n => ((i + n : Nat) : Int)) := by
   by_cases h92 : bt s (i : Int) = 92
   ·have ih := closing_ev hs d (i + 1) (x + 1) (!o) (by omega) (by omega) (by omega) (by
     have e : Int.tmod x 2 = x % 2 := Int.tmod_eq_emod_of_nonneg hx0
     have e2 : Int.tmod (x + 1) 2 = (x + 1) % 2 := Int.tmod_eq_emod_of_nonneg (by omega)
     rw [e2]; rw [e] at ho
     cases o with
     | true => simp at ho ⊢; omega
     | false => simp at ho ⊢; omega)
    rw [if_pos h92]
    have : (match (clos (!o) ((bytesOf s).drop (i + 1))).map (· + 1) with | none => (-1 : Int) | some n => ((i + n : Nat) : Int)) = match clos (!o) ((bytesOf s).drop (i + 1)) with | none => -1 | some n => ((i + 1 + n : Nat) : Int) := by
     cases clos (!o) ((bytesOf s).drop (i + 1)) with
     | none => rfl
     | some n => exact congrArg (Nat.cast : Nat → Int) (by omega : i + (n + 1) = i + 1 + n)
    rw [this]
    refine Ev.step (fun k => ?_) ih
    simp (disch := omega) only [spec_Closing.j1, Bool.false_eq_true, if_false, if_pos, h92, hw, hw2, if_true]
   have ih := closing_ev hs d (i + 1) 0 false (by omega) (by omega) (by omega) rfl
   rw [if_neg h92]
   have : (match (clos false ((bytesOf s).drop (i + 1))).map (· + 1) with | none => (-1 : Int) | some n => ((i + n : Nat) : Int)) = match clos false ((bytesOf s).drop (i + 1)) with | none => -1 | some n => ((i + 1 + n : Nat) : Int) := by
    cases clos false ((bytesOf s).drop (i + 1)) with
    | none => rfl
    | some n => exact congrArg (Nat.cast : Nat → Int) (by omega : i + (n + 1) = i + 1 + n)
   rw [this]
   refine Ev.step (fun k => ?_) ih
   simp (disch := omega) only [spec_Closing.j1, Bool.false_eq_true, if_false, if_pos, if_neg, h92, hw]
  refine Ev.step (fun k => ?_) st
  by_cases h34 : bt s (i : Int) = 34
  ·have ho' : o = true := by cases o with
    | true => rfl
    | false => exact absurd ⟨h34, rfl⟩ hc
   have hq : (Int.tmod x 2 == 0) = false := by rw [ho, ho']; rfl
   simp (disch := omega) only [spec_Closing.l0, if_pos, h34, hq, if_true]
  simp (disch := omega) only [spec_Closing.l0, if_pos, if_neg, h34, if_false]
theorem clos_lt : ∀ {l : List Int} {o : Bool} {n : Nat}, clos o l = some n → n < l.length
 | [], _, _, h => by cases h
 | c :: l, o, n, h => by
  rw [clos] at h
  split at h
  ·obtain rfl := Option.some.inj h; simp
  obtain ⟨m, hm, rfl⟩ := Option.map_eq_some_iff.1 h
  have := clos_lt hm
  simp; omega
theorem bt_drop {x : ByteArray} {l : List Int} (h : bytesOf x = l) (j : Nat) : bt x (j : Int) = l.getD j 0 := by rw [bt_nat, h]
theorem l1_ev {x0 x6 : ByteArray} (hs : x0.size ≤ 4000) {n : Nat} (hn : n ≤ x0.size) : ∀ i : Nat, i ≤ n → (∀ j : Nat, i ≤ j → j < n → bt x0 (j : Int) = 92) →
  ∃ i' : Nat, i' ≤ n ∧ (∀ j : Nat, i' ≤ j → j < n → bt x0 (j : Int) = 92) ∧ (i' = 0 ∨ bt x0 ((i' - 1 : Nat) : Int) ≠ 92) ∧ ∀ R, Ev (fun k => fastjson_parseRawString.j3 k x0 n x6 i') R → Ev (fun k => fastjson_parseRawString.l1 k x0 n x6 i) R
 | 0, hi, hj => ⟨0, hi, hj, .inl rfl, fun R h => Ev.step (fun k => by simp (disch := omega) only [fastjson_parseRawString.l1, if_neg]) h⟩
 | i + 1, hi, hj => by
  have hw : wrap64 (((i + 1 : Nat) : Int) - 1) = (i : Int) := by rw [wr (by omega) (by omega)]; omega
  by_cases hb : bt x0 (i : Int) = 92
  ·obtain ⟨i', a, b, c, d⟩ := l1_ev (x6 := x6) hs hn i (by omega) (fun j h1 h2 => by
    by_cases e : j = i
    ·rw [e]; exact hb
    exact hj j (by omega) h2)
   refine ⟨i', a, b, c, fun R h => Ev.step (fun k => ?_) (d R h)⟩
   simp (disch := omega) only [fastjson_parseRawString.l1, if_pos, hw, hb, if_true]
  refine ⟨i + 1, hi, hj, .inr hb, fun R h => Ev.step (fun k => ?_) h⟩
  simp (disch := omega) only [fastjson_parseRawString.l1, if_pos, if_neg, hw, hb, if_false]
/-- What is said of the raw string that a text (its part from p on) begins with. -/
structure RawSaid (s : ByteArray) (p : Nat) (R : ByteArray × ByteArray × Option Int) : Prop where
 is : match clos false ((bytesOf s).drop p) with
  | some m => R = (s.extract 0 (p + m), s.extract (p + m + 1) s.size, none)
  | none => R.2 = (⟨#[]⟩, some 0)
theorem said_some {s : ByteArray} {p m : Nat} {R : ByteArray × ByteArray × Option Int} (h : clos false ((bytesOf s).drop p) = some m) : RawSaid s p R ↔ R = (s.extract 0 (p + m), s.extract (p + m + 1) s.size, none) :=
 ⟨fun ⟨q⟩ => by rw [h] at q; exact q, fun q => ⟨by rw [h]; exact q⟩⟩
theorem said_none {s : ByteArray} {p : Nat} {R : ByteArray × ByteArray × Option Int} (h : clos false ((bytesOf s).drop p) = none) : RawSaid s p R ↔ R.2 = (⟨#[]⟩, some 0) :=
 ⟨fun ⟨q⟩ => by rw [h] at q; exact q, fun q => ⟨by rw [h]; exact q⟩⟩
theorem w_add1 {n : Nat} (h : n ≤ 100000) : wrap64 ((n : Int) + 1) = ((n + 1 : Nat) : Int) := by rw [wr (by omega) (by omega)]; omega
theorem w_add {a b : Nat} (h : a ≤ 100000) (h2 : b ≤ 100000) : wrap64 ((a : Int) + b) = ((a + b : Nat) : Int) := by rw [wr (by omega) (by omega)]; omega
theorem w_sub {a b : Nat} (h : b ≤ a) (h2 : a ≤ 100000) : wrap64 ((a : Int) - b) = ((a - b : Nat) : Int) := by rw [wr (by omega) (by omega)]; omega
theorem w_sub1 {n : Nat} (h : 1 ≤ n) (h2 : n ≤ 100000) : wrap64 ((n : Int) - 1) = ((n - 1 : Nat) : Int) := by rw [wr (by omega) (by omega)]; omega
theorem u64n {n : Nat} (h : n ≤ 100000) : IntKind.u64.wrap ((n : Nat) : Int) = n := by
 have : ((n : Nat) : Int) % 18446744073709551616 = n := by omega
 simpa [IntKind.wrap, IntKind.bits, IntKind.signed] using this
theorem tmodn (n : Nat) : Int.tmod ((n : Nat) : Int) 2 = ((n % 2 : Nat) : Int) := rfl
theorem j3_even {x0 s : ByteArray} {n i' p : Nat} (hi : i' ≤ n) (hn : n < x0.size) (hs : s.size ≤ 4000) (hp : x0.size = s.size - p) (hp2 : p ≤ s.size) (hev : (n - i') % 2 = 0) (k : Nat) :
  fastjson_parseRawString.j3 (k + 1) x0 n s i' = some (s.extract 0 (p + n), x0.extract (n + 1) x0.size, none) := by
 have h2 : wrap64 ((s.size : Int) - (x0.size : Int)) = (p : Int) := by rw [w_sub (by omega) (by omega)]; omega
 rw [fastjson_parseRawString.j3, w_sub hi (by omega), u64n (by omega), tmodn, if_pos (by omega), h2, w_add (by omega) (by omega), w_add1 (by omega), if_pos (by omega), if_pos (by omega), if_pos (by omega), if_pos (by omega), Int.toNat_natCast, Int.toNat_natCast]
/-- What the loop does behind a mark that is not the last one: x1 is the text behind it. -/
def cont (k : Nat) (x1 s : ByteArray) (t : Int) : Option (ByteArray × ByteArray × Option Int) :=
 if t < 0 then some (s, ⟨#[]⟩, some 0) else if t = 0 then (if 0 ≤ (wrap64 ((wrap64 ((s.size : Int) - (x1.size : Int))) + t)) then (if (wrap64 ((wrap64 ((s.size : Int) - (x1.size : Int))) + t)) ≤ (s.size : Int) then (if 0 ≤ (wrap64 (t + 1)) then (if (wrap64 (t + 1)) ≤ (x1.size : Int) then (some (s.extract 0 ((wrap64 ((wrap64 ((s.size : Int) - (x1.size : Int))) + t)) : Int).toNat, x1.extract ((wrap64 (t + 1)) : Int).toNat x1.size, none)) else (none)) else (none)) else (none)) else (none))
 else (if 0 ≤ (wrap64 (t - 1)) then (if (wrap64 (t - 1)) < (x1.size : Int) then (if (bt x1 (wrap64 (t - 1))) = 92 then (fastjson_parseRawString.l0 k x1 t s) else (if 0 ≤ (wrap64 ((wrap64 ((s.size : Int) - (x1.size : Int))) + t)) then (if (wrap64 ((wrap64 ((s.size : Int) - (x1.size : Int))) + t)) ≤ (s.size : Int) then (if 0 ≤ (wrap64 (t + 1)) then (if (wrap64 (t + 1)) ≤ (x1.size : Int) then (some (s.extract 0 ((wrap64 ((wrap64 ((s.size : Int) - (x1.size : Int))) + t)) : Int).toNat, x1.extract ((wrap64 (t + 1)) : Int).toNat x1.size, none)) else (none)) else (none)) else (none)) else (none))) else (none)) else (none))
theorem j3_odd {x0 s : ByteArray} {n i' : Nat} (hi : i' ≤ n) (hn : n < x0.size) (hs : x0.size ≤ 4000) (hod : ¬ (n - i') % 2 = 0) (k : Nat) :
  fastjson_parseRawString.j3 (k + 1) x0 n s i' = (strings_IndexByte.f (x0.extract (n + 1) x0.size) 34).bind (cont k (x0.extract (n + 1) x0.size) s) := by
 rw [fastjson_parseRawString.j3, w_sub hi (by omega), u64n (by omega), tmodn, if_neg (by omega), w_add1 (by omega), if_pos (by omega), if_pos (by omega), Int.toNat_natCast]
 rfl
theorem cont_done {x1 s : ByteArray} {p t : Nat} (hs : s.size ≤ 4000) (hp : x1.size = s.size - p) (hp2 : p ≤ s.size) (ht : t < x1.size) (hend : t = 0 ∨ bt x1 ((t - 1 : Nat) : Int) ≠ 92) (k : Nat) :
  cont k x1 s t = some (s.extract 0 (p + t), x1.extract (t + 1) x1.size, none) := by
 have h2 : wrap64 ((s.size : Int) - (x1.size : Int)) = (p : Int) := by rw [w_sub (by omega) (by omega)]; omega
 unfold cont
 rw [h2, w_add (by omega) (by omega), w_add1 (by omega), if_neg (by omega)]
 by_cases h0 : (t : Int) = 0
 ·rw [if_pos h0, if_pos (by omega), if_pos (by omega), if_pos (by omega), if_pos (by omega), Int.toNat_natCast, Int.toNat_natCast]
 have hb : bt x1 ((t - 1 : Nat) : Int) ≠ 92 := by
  rcases hend with h | h
  ·omega
  exact h
 rw [if_neg h0, w_sub1 (by omega) (by omega), if_pos (by omega), if_pos (by omega), if_neg hb, if_pos (by omega), if_pos (by omega), if_pos (by omega), if_pos (by omega), Int.toNat_natCast, Int.toNat_natCast]
theorem cont_on {x1 s : ByteArray} {t : Nat} (hs : x1.size ≤ 4000) (ht : t < x1.size) (h0 : 0 < t) (hb : bt x1 ((t - 1 : Nat) : Int) = 92) (k : Nat) : cont k x1 s t = fastjson_parseRawString.l0 k x1 t s := by
 unfold cont
 rw [if_neg (by omega), if_neg (by omega), w_sub1 (by omega) (by omega), if_pos (by omega), if_pos (by omega), if_pos hb]
theorem raw_l0 {s : ByteArray} (hs : s.size ≤ 4000) : ∀ (d p n : Nat), p ≤ s.size → s.size - p ≤ d → ix 34 ((bytesOf s).drop p) = some n → 0 < n → bt (s.extract p s.size) ((n - 1 : Nat) : Int) = 92 →
  ∃ R, Ev (fun k => fastjson_parseRawString.l0 k (s.extract p s.size) n s) R ∧ RawSaid s p R
 | 0, p, n, hp, hd, hi, hn, hb => by
  have := (ix_some hi).1
  rw [List.length_drop, bytesOf_length] at this
  omega
 | d + 1, p, n, hp, hd, hi, hn, hb => by
  have hlt := (ix_some hi).1
  rw [List.length_drop, bytesOf_length] at hlt
  have hbx := suf_bytes s p
  have hsz := suf_size s p
  have ssf := suf_suf s p (n + 1)
  obtain ⟨x0, hx0⟩ : ∃ x, x = s.extract p s.size := ⟨_, rfl⟩
  rw [← hx0] at hb hbx hsz ssf ⊢
  obtain ⟨i', hi1, hi2, hi3, hj⟩ := l1_ev (x0 := x0) (x6 := s) (by omega) (n := n) (by omega) (n - 1) (by omega) (fun j h1 h2 => by
   rw [show j = n - 1 by omega]; exact hb)
  have go : ∀ R, Ev (fun k => fastjson_parseRawString.j3 k x0 n s i') R → Ev (fun k => fastjson_parseRawString.l0 k x0 n s) R := fun R h =>
   Ev.step (fun k => by rw [fastjson_parseRawString.l0, w_sub1 hn (by omega)]) (hj R h)
  have hpar := par_run (l := (bytesOf s).drop p) (n := n) (i := i') (by rw [List.length_drop, bytesOf_length]; omega) hi1
   (fun j h1 h2 => by rw [← bt_drop hbx]; exact hi2 j h1 h2) (by
    rcases hi3 with h | h
    ·exact .inl h
    right; rw [← bt_drop hbx]; exact h)
  have hcl := clos_some (o := false) hi
  rw [hpar] at hcl
  clear hj hi2 hi3 hpar
  by_cases hev : (n - i') % 2 = 0
  ·rw [if_pos (by rw [beq_eq_false_iff_ne]; omega)] at hcl
   refine ⟨(s.extract 0 (p + n), s.extract (p + n + 1) s.size, none), go _ (ev_one fun k => ?_), (said_some hcl).2 rfl⟩
   rw [j3_even hi1 (by omega) hs hsz hp hev, ssf, Nat.add_assoc]
  rw [if_neg (by rw [beq_eq_false_iff_ne]; omega), List.drop_drop] at hcl
  have hp1 : p + (n + 1) ≤ s.size := by omega
  have hbx1 := suf_bytes s (p + (n + 1))
  have hsz1 := suf_size s (p + (n + 1))
  have ssf1 := fun q => suf_suf s (p + (n + 1)) q
  have ih := fun t => raw_l0 hs d (p + (n + 1)) t hp1 (by omega)
  have st : ∀ k, fastjson_parseRawString.j3 (k + 1) x0 n s i' = (strings_IndexByte.f (x0.extract (n + 1) x0.size) 34).bind (cont k (x0.extract (n + 1) x0.size) s) := j3_odd hi1 (by omega) (by omega) hev
  obtain ⟨x1, hx1⟩ : ∃ x, x = s.extract (p + (n + 1)) s.size := ⟨_, rfl⟩
  rw [ssf] at st
  rw [← hx1] at hbx1 hsz1 ssf1 ih st
  have hind := index_ix x1 34 (by omega) (by omega)
  rw [hbx1] at hind
  rw [hind] at st
  clear hind hbx hx0 ssf
  cases ht : ix 34 ((bytesOf s).drop (p + (n + 1))) with
  | none =>
   rw [ht] at st
   rw [clos_none ht] at hcl
   exact ⟨(s, ⟨#[]⟩, some 0), go _ (ev_one fun k => by rw [st]; rfl), (said_none hcl).2 rfl⟩
  | some t =>
   have htl := (ix_some ht).1
   rw [List.length_drop, bytesOf_length] at htl
   rw [ht] at st
   have st2 : ∀ k, fastjson_parseRawString.j3 (k + 1) x0 n s i' = cont k x1 s t := st
   by_cases hend : t = 0 ∨ bt x1 ((t - 1 : Nat) : Int) ≠ 92
   ·have hc2 := clos_some (o := false) ht
    rw [par_not (by rw [List.length_drop, bytesOf_length]; omega) (by
     rcases hend with h | h
     ·exact .inl h
     right; rw [← bt_drop hbx1]; exact h), if_pos rfl] at hc2
    rw [hc2, Option.map_some] at hcl
    refine ⟨(s.extract 0 (p + (t + (n + 1))), s.extract (p + (t + (n + 1)) + 1) s.size, none), go _ (ev_one fun k => ?_), (said_some hcl).2 rfl⟩
    rw [st2, cont_done hs hsz1 hp1 (by omega) hend, ssf1, show p + (n + 1) + t = p + (t + (n + 1)) by omega, show p + (n + 1) + (t + 1) = p + (t + (n + 1)) + 1 by omega]
   have ht0 : 0 < t := by
    rcases Nat.eq_zero_or_pos t with h | h
    ·exact absurd (.inl h) hend
    exact h
   have hb2 : bt x1 ((t - 1 : Nat) : Int) = 92 := by
    by_cases h : bt x1 ((t - 1 : Nat) : Int) = 92
    ·exact h
    exact absurd (.inr h) hend
   obtain ⟨R, hR, hS⟩ := ih t ht ht0 hb2
   refine ⟨R, go _ (Ev.step (fun k => ?_) hR), ?_⟩
   ·rw [st2, cont_on (by omega) (by omega) ht0 hb2]
   cases hc : clos false ((bytesOf s).drop (p + (n + 1))) with
   | none =>
    rw [hc] at hcl
    exact (said_none hcl).2 ((said_none hc).1 hS)
   | some m =>
    rw [hc, Option.map_some] at hcl
    rw [said_some hcl, (said_some hc).1 hS]
    rw [show p + (n + 1) + m = p + (m + (n + 1)) by omega]
theorem raw_ev {s : ByteArray} (hs : s.size ≤ 4000) : ∃ R, Ev (fun k => fastjson_parseRawString.f k s) R ∧ RawSaid s 0 R := by
 have hind := index_ix s 34 (by omega) (by omega)
 have e0 : s.extract 0 s.size = s := by
  apply bytesOf_inj
  rw [suf_bytes, List.drop_zero]
 cases hi : ix 34 (bytesOf s) with
 | none =>
  rw [hi] at hind
  refine ⟨(s, ⟨#[]⟩, some 0), ev_const fun k => ?_, (said_none (by rw [List.drop_zero]; exact clos_none hi)).2 rfl⟩
  simp (disch := omega) only [fastjson_parseRawString.f, hind, Option.bind_some, toI, if_pos, errors_New.f]
 | some n =>
  have hlt := (ix_some hi).1
  rw [bytesOf_length] at hlt
  rw [hi] at hind
  have hw1 : wrap64 ((n : Int) + 1) = ((n + 1 : Nat) : Int) := by rw [wr (by omega) (by omega)]; omega
  have hw2 : wrap64 ((n : Int) - 1) = (n : Int) - 1 := wr (by omega) (by omega)
  by_cases hend : n = 0 ∨ bt s ((n - 1 : Nat) : Int) ≠ 92
  ·have hc2 := clos_some (o := false) hi
   rw [par_not (by rw [bytesOf_length]; omega) (by
    rcases hend with h | h
    ·exact .inl h
    right; rw [← bt_nat]; exact h), if_pos rfl] at hc2
   have fin : Ev (fun k => fastjson_parseRawString.j0 k s n true) (s.extract 0 n, s.extract (n + 1) s.size, none) := ev_one fun k => by
    simp (disch := omega) only [fastjson_parseRawString.j0, if_true, if_pos, hw1, Int.toNat_natCast]
   refine ⟨_, Ev.congr (fun k => ?_) fin, (said_some (by rw [List.drop_zero]; exact hc2)).2 (by rw [Nat.zero_add])⟩
   by_cases hn0 : n = 0
   ·subst hn0
    simp (disch := omega) only [fastjson_parseRawString.f, hind, Option.bind_some, toI, if_pos, if_neg]
   have hb2 : bt s ((n : Int) - 1) ≠ 92 := by
    rcases hend with h | h
    ·exact absurd h hn0
    rwa [show ((n - 1 : Nat) : Int) = (n : Int) - 1 by omega] at h
   have hb3 : (bt s ((n : Int) - 1) != 92) = true := by simpa using hb2
   simp (disch := omega) only [fastjson_parseRawString.f, hind, Option.bind_some, toI, if_pos, if_neg, hw2, hb3]
  have hn0 : 0 < n := by
   rcases Nat.eq_zero_or_pos n with h | h
   ·exact absurd (.inl h) hend
   exact h
  have hb2 : bt s ((n - 1 : Nat) : Int) = 92 := by
   by_cases h : bt s ((n - 1 : Nat) : Int) = 92
   ·exact h
   exact absurd (.inr h) hend
  obtain ⟨R, hR, hS⟩ := raw_l0 hs s.size 0 n (by omega) (by omega) (by rw [List.drop_zero]; exact hi) hn0 (by rw [e0]; exact hb2)
  rw [e0] at hR
  have hb3 : (bt s ((n : Int) - 1) != 92) = false := by
   rw [show ((n - 1 : Nat) : Int) = (n : Int) - 1 by omega] at hb2
   rw [hb2]; rfl
  refine ⟨R, Ev.congr (f := fun k => fastjson_parseRawString.j0 k s n false) (fun k => ?_) (Ev.step (fun k => ?_) hR), hS⟩
  ·simp (disch := omega) only [fastjson_parseRawString.f, hind, Option.bind_some, toI, if_pos, if_neg, hw2, hb3]
  simp only [fastjson_parseRawString.j0, Bool.false_eq_true, if_false]
theorem ix_at : ∀ (l : List Int) (n : Nat), n < l.length → l.getD n 0 = 34 → (∀ j, j < n → l.getD j 0 ≠ 34) → ix 34 l = some n
 | [], n, h, _, _ => by cases h
 | a :: l, n, h1, h2, h3 => by
  rw [ix]
  cases n with
  | zero => rw [if_pos (by simpa using h2)]
  | succ n =>
   rw [if_neg (by simpa using h3 0 (by omega)), ix_at l n (by simpa using h1) (by simpa using h2) (fun j hj => by simpa using h3 (j + 1) (by omega))]
   rfl
theorem clos_fast {s : ByteArray} {n : Nat} (hn : n < s.size) (hq : bt s (n : Int) = 34) (hno : ∀ j : Nat, j < n → bt s (j : Int) ≠ 34 ∧ bt s (j : Int) ≠ 92) : clos false (bytesOf s) = some n := by
 have h1 := ix_at (bytesOf s) n (by rw [bytesOf_length]; exact hn) (by rw [← bt_nat]; exact hq) (fun j hj => by rw [← bt_nat]; exact (hno j hj).1)
 have h2 := clos_some (o := false) h1
 rw [par_not (by rw [bytesOf_length]; omega) (by
  by_cases h : n = 0
  ·exact .inl h
  right; rw [← bt_nat]; exact (hno (n - 1) (by omega)).2), if_pos rfl] at h2
 exact h2
/-- The name that a text begins with, by the package. -/
theorem rkey_l0 {s : ByteArray} (hs : s.size ≤ 4000) : ∀ (d i : Nat), i + d = s.size → (∀ j : Nat, j < i → bt s (j : Int) ≠ 34 ∧ bt s (j : Int) ≠ 92) → ∃ R, Ev (fun k => fastjson_parseRawKey.l0 k s s.size i) R ∧ RawSaid s 0 R
 | 0, i, hd, hno => by
  refine ⟨(s, ⟨#[]⟩, some 0), ev_one fun k => ?_, ?_⟩
  ·simp (disch := omega) only [fastjson_parseRawKey.l0, if_neg, errors_New.f, Option.bind_some]
  refine (said_none ?_).2 rfl
  rw [List.drop_zero]
  apply clos_none
  cases h : ix 34 (bytesOf s) with
  | none => rfl
  | some n =>
   obtain ⟨a, b, _⟩ := ix_some h
   rw [bytesOf_length] at a
   rw [← bt_nat] at b
   exact absurd b (hno n (by omega)).1
 | d + 1, i, hd, hno => by
  have hw1 : wrap64 ((i : Int) + 1) = ((i + 1 : Nat) : Int) := by rw [wr (by omega) (by omega)]; omega
  by_cases h34 : bt s (i : Int) = 34
  ·have hg := clos_fast (by omega) h34 hno
   refine ⟨(s.extract 0 i, s.extract (i + 1) s.size, none), ev_one fun k => ?_, (said_some (by rw [List.drop_zero]; exact hg)).2 (by rw [Nat.zero_add])⟩
   simp (disch := omega) only [fastjson_parseRawKey.l0, if_pos, h34, hw1, Int.toNat_natCast, if_true]
  by_cases h92 : bt s (i : Int) = 92
  ·obtain ⟨⟨a, b, e⟩, hR, hS⟩ := raw_ev hs
   have st : ∀ k, fastjson_parseRawKey.l0 (k + 1) s s.size i = (fastjson_parseRawString.f k s).bind fun b => some (b.1, b.2.1, b.2.2) := fun k => by
    simp (disch := omega) only [fastjson_parseRawKey.l0, if_pos, if_neg, h34, h92, if_true]
   exact ⟨_, Ev.step st (Ev.bind (f := fun _ b => some (b.1, b.2.1, b.2.2)) hR (ev_const fun _ => rfl)), hS⟩
  obtain ⟨R, hR, hS⟩ := rkey_l0 hs d (i + 1) (by omega) (fun j hj => by
   by_cases e : j = i
   ·rw [e]; exact ⟨h34, h92⟩
   exact hno j (by omega))
  refine ⟨R, Ev.step (fun k => ?_) hR, hS⟩
  simp (disch := omega) only [fastjson_parseRawKey.l0, if_pos, if_neg, h34, h92, hw1, if_false]
theorem rkey_ev {s : ByteArray} (hs : s.size ≤ 4000) : ∃ R, Ev (fun k => fastjson_parseRawKey.f k s) R ∧ RawSaid s 0 R := rkey_l0 hs s.size 0 (by omega) (fun j hj => by omega)
theorem clos_ev {s : ByteArray} (hs : s.size ≤ 4000) : Ev (fun k => spec_Closing.f k s) (toI (clos false (bytesOf s))) := by
 have h := closing_ev hs s.size 0 0 false (by omega) (by omega) (by omega) rfl
 rw [List.drop_zero] at h
 have e : (match clos false (bytesOf s) with | none => (-1 : Int) | some n => ((0 + n : Nat) : Int)) = toI (clos false (bytesOf s)) := by
  cases clos false (bytesOf s) with
  | none => rfl
  | some n => simp [toI]
 rw [e] at h
 exact h
/-! ### blanks -/
def nb : List Int → Nat
 | [] => 0
 | c :: l => if c = 32 ∨ c = 9 ∨ c = 10 ∨ c = 13 then nb l + 1 else 0
/-- A text without the blanks ahead of it. -/
def skip (s : ByteArray) : ByteArray := s.extract (nb (bytesOf s)) s.size
theorem skip_size (s : ByteArray) : (skip s).size ≤ s.size := by
 unfold skip; rw [suf_size]; omega
theorem bt_cons {s : ByteArray} (h : 0 < s.size) : bytesOf s = bt s 0 :: (bytesOf s).drop 1 := by
 have hl : 0 < (bytesOf s).length := by rw [bytesOf_length]; exact h
 have hb : bt s 0 = (bytesOf s)[0] := by
  have := bt_nat s 0
  rw [List.getD_eq_getElem?_getD, List.getElem?_eq_getElem hl] at this
  exact this
 rw [hb]
 conv => lhs; rw [← List.drop_zero (l := bytesOf s), List.drop_eq_getElem_cons hl]
theorem nb_nil {s : ByteArray} (h : s.size = 0) : nb (bytesOf s) = 0 := by
 rw [List.eq_nil_of_length_eq_zero (by rw [bytesOf_length]; exact h : (bytesOf s).length = 0)]; rfl
theorem skip_zero {s : ByteArray} (h : nb (bytesOf s) = 0) : skip s = s := by
 unfold skip; rw [h]
 apply bytesOf_inj
 rw [suf_bytes, List.drop_zero]
theorem skip_one {s : ByteArray} (h0 : 0 < s.size) (h : bt s 0 = 32 ∨ bt s 0 = 9 ∨ bt s 0 = 10 ∨ bt s 0 = 13) : skip s = skip (s.extract 1 s.size) := by
 have e : nb (bytesOf s) = nb ((bytesOf s).drop 1) + 1 := by
  conv => lhs; rw [bt_cons h0]
  rw [nb, if_pos h]
 unfold skip
 rw [suf_suf, suf_bytes, e, Nat.add_comm]
theorem nb_stop {s : ByteArray} (h : ¬ (bt s 0 = 32 ∨ bt s 0 = 9 ∨ bt s 0 = 10 ∨ bt s 0 = 13)) : nb (bytesOf s) = 0 := by
 rcases Nat.eq_zero_or_pos s.size with h0 | h0
 ·exact nb_nil h0
 rw [bt_cons h0, nb, if_neg h]
theorem nb_drop : ∀ l : List Int, nb (l.drop (nb l)) = 0
 | [] => rfl
 | c :: l => by
  by_cases h : c = 32 ∨ c = 9 ∨ c = 10 ∨ c = 13
  ·have e : nb (c :: l) = nb l + 1 := by rw [nb, if_pos h]
   rw [e, List.drop_succ_cons]
   exact nb_drop l
  have e : nb (c :: l) = 0 := by rw [nb, if_neg h]
  rw [e, List.drop_zero, e]
theorem skip_skip (s : ByteArray) : skip (skip s) = skip s := skip_zero (by unfold skip; rw [suf_bytes]; exact nb_drop _)
theorem toList_nil (s : ByteArray) : s.toList = ([] : List UInt8) ↔ s.size = 0 := by
 have h : s.toList = (ByteArray.empty : ByteArray).toList ↔ bytesOf s = bytesOf ByteArray.empty := toList_iff s ByteArray.empty
 have e : (ByteArray.empty : ByteArray).toList = ([] : List UInt8) := by unfold ByteArray.toList; unfold ByteArray.toList.loop; rfl
 rw [e] at h
 rw [h]
 constructor
 ·intro h2
  have := congrArg List.length h2
  rw [bytesOf_length, bytesOf_length] at this
  exact this
 intro h2
 exact (List.eq_nil_of_length_eq_zero (by rw [bytesOf_length]; exact h2 : (bytesOf s).length = 0))
theorem skipped_ev : ∀ (n : Nat) (s : ByteArray), s.size ≤ n → Ev (fun k => spec_skipped.l0 k s) (skip s)
 | n, s, hn => by
  by_cases h0 : s.size = 0
  ·rw [skip_zero (nb_nil h0)]
   exact ev_one fun k => by rw [spec_skipped.l0, if_pos ((toList_nil s).2 h0)]
  have hne : ¬ s.toList = ([] : List UInt8) := fun e => h0 ((toList_nil s).1 e)
  have hbl : ∃ b : Bool, spec_Blank.f (bt s 0) = some b ∧ (b = true ↔ (bt s 0 = 32 ∨ bt s 0 = 9 ∨ bt s 0 = 10 ∨ bt s 0 = 13)) := by
   unfold spec_Blank.f
   by_cases h1 : bt s 0 = 32
   ·exact ⟨true, by rw [if_pos h1], by simp [h1]⟩
   by_cases h2 : bt s 0 = 9
   ·exact ⟨true, by rw [if_neg h1, if_pos h2], by simp [h2]⟩
   by_cases h3 : bt s 0 = 10
   ·exact ⟨true, by rw [if_neg h1, if_neg h2, if_pos h3], by simp [h3]⟩
   exact ⟨bt s 0 == 13, by rw [if_neg h1, if_neg h2, if_neg h3], by rw [beq_iff_eq]; omega⟩
  obtain ⟨b, hb, hi⟩ := hbl
  cases b with
  | true =>
   have hs := hi.1 rfl
   rw [skip_one (by omega) hs]
   cases n with
   | zero => omega
   | succ n =>
    refine Ev.step (fun k => ?_) (skipped_ev n (s.extract 1 s.size) (by rw [suf_size]; omega))
    rw [spec_skipped.l0, if_neg hne, if_pos (by omega), hb, Option.bind_some, if_pos rfl, if_pos (by omega)]
  | false =>
   have hs : ¬ (bt s 0 = 32 ∨ bt s 0 = 9 ∨ bt s 0 = 10 ∨ bt s 0 = 13) := fun e => Bool.noConfusion (hi.2 e)
   rw [skip_zero (nb_stop hs)]
   exact ev_one fun k => by rw [spec_skipped.l0, if_neg hne, if_pos (by omega), hb, Option.bind_some, if_neg (by decide)]
theorem skipped (s : ByteArray) : Ev (fun k => spec_skipped.f k s) (skip s) := skipped_ev s.size s (Nat.le_refl _)
theorem ws_l0 {s : ByteArray} (hs : s.size ≤ 100000) : ∀ (d i : Nat), i + d = s.size → 1 ≤ i → Ev (fun k => fastjson_skipWSSlow.l0 k s i) (skip (s.extract i s.size))
 | 0, i, hd, h1 => by
  have hz : (s.extract i s.size).size = 0 := by rw [suf_size]; omega
  have e : skip (s.extract i s.size) = (⟨#[]⟩ : ByteArray) := by
   rw [skip_zero (nb_nil hz)]
   apply bytesOf_inj
   rw [List.eq_nil_of_length_eq_zero (by rw [bytesOf_length]; exact hz : (bytesOf (s.extract i s.size)).length = 0)]; rfl
  rw [e]
  exact ev_one fun k => by rw [fastjson_skipWSSlow.l0, if_neg (by omega)]
 | d + 1, i, hd, h1 => by
  have hw1 : wrap64 ((i : Int) + 1) = ((i + 1 : Nat) : Int) := by rw [wr (by omega) (by omega)]; omega
  have hb : bt (s.extract i s.size) 0 = bt s (i : Int) := by have := suf_bt s i 0; rw [Nat.add_zero] at this; exact this
  have hsz : 0 < (s.extract i s.size).size := by rw [suf_size]; omega
  by_cases hc : bt s (i : Int) = 32 ∨ bt s (i : Int) = 9 ∨ bt s (i : Int) = 10 ∨ bt s (i : Int) = 13
  ·have ih := ws_l0 hs d (i + 1) (by omega) (by omega)
   rw [skip_one hsz (by rw [hb]; exact hc), suf_suf]
   refine Ev.step (fun k => ?_) ih
   rw [fastjson_skipWSSlow.l0, if_pos (by omega), if_pos (by omega), hw1]
   by_cases c1 : bt s (i : Int) = 32
   ·rw [if_pos c1]
   rw [if_neg c1]
   by_cases c2 : bt s (i : Int) = 10
   ·rw [if_pos c2]
   rw [if_neg c2]
   by_cases c3 : bt s (i : Int) = 9
   ·rw [if_pos c3]
   rw [if_neg c3, if_pos (by omega)]
  rw [skip_zero (nb_stop (by rw [hb]; exact hc))]
  exact ev_one fun k => by
   rw [fastjson_skipWSSlow.l0, if_pos (by omega), if_pos (by omega), if_neg (by omega), if_neg (by omega), if_neg (by omega), if_neg (by omega), if_pos (by omega), Int.toNat_natCast]
theorem ws_ev {s : ByteArray} (hs : s.size ≤ 100000) : Ev (fun k => fastjson_skipWS.f k s) (skip s) := by
 by_cases h0 : s.size = 0
 ·rw [skip_zero (nb_nil h0)]
  exact ev_const fun k => by rw [fastjson_skipWS.f, if_pos (by omega)]
 by_cases h1 : bt s 0 > 32
 ·rw [skip_zero (nb_stop (by omega))]
  exact ev_const fun k => by rw [fastjson_skipWS.f, if_neg (by omega), if_pos (by omega), if_pos h1]
 have slow : Ev (fun k => fastjson_skipWSSlow.f k s) (skip s) := by
  by_cases hc : bt s 0 = 32 ∨ bt s 0 = 9 ∨ bt s 0 = 10 ∨ bt s 0 = 13
  ·rw [skip_one (by omega) hc]
   have h := ws_l0 hs (s.size - 1) 1 (by omega) (Nat.le_refl _)
   have st : Ev (fun k => fastjson_skipWSSlow.j0 k s false) (skip (s.extract 1 s.size)) := Ev.step (fun k => by rw [fastjson_skipWSSlow.j0, if_neg (by decide)]; rfl) h
   refine Ev.congr (fun k => ?_) st
   rw [fastjson_skipWSSlow.f, if_neg (by omega), if_pos (by omega)]
   by_cases c1 : bt s 0 = 32
   ·rw [if_pos c1]
   rw [if_neg c1]
   by_cases c2 : bt s 0 = 10
   ·rw [if_pos c2]
   rw [if_neg c2]
   by_cases c3 : bt s 0 = 9
   ·rw [if_pos c3]
   rw [if_neg c3]
   have c4 : bt s 0 = 13 := by omega
   rw [c4]; rfl
  rw [skip_zero (nb_stop hc)]
  have hb : (bt s 0 != 13) = true := bne_iff_ne.2 (by omega)
  have st : Ev (fun k => fastjson_skipWSSlow.j0 k s true) s := ev_one fun k => by rw [fastjson_skipWSSlow.j0, if_pos rfl]
  refine Ev.congr (fun k => ?_) st
  rw [fastjson_skipWSSlow.f, if_neg (by omega), if_pos (by omega), if_neg (by omega), if_neg (by omega), if_neg (by omega), hb]
 refine Ev.congr (fun k => ?_) slow
 rw [fastjson_skipWS.f, if_neg (by omega), if_pos (by omega), if_neg h1]
 cases fastjson_skipWSSlow.f k s <;> rfl
end Go.Proofs.YtnajijaachgipaaDoor.J
end
section
namespace Go.Proofs.YtnajijaachgipaaDoor.J
open Go.RowKit Go.Proofs.YtnajijaachgipaaDoor.PT Go.Proofs.YtnajijaachgipaaDoorW.PrintWords Go.Proofs.YtnajijaachgipaaDoorW.PrintLast
set_option linter.unusedSimpArgs false
set_option linter.unusedVariables false
def nch (c : Int) : Prop := (48 ≤ c ∧ c ≤ 57) ∨ c = 46 ∨ c = 45 ∨ c = 43 ∨ c = 101 ∨ c = 69
instance (c : Int) : Decidable (nch c) := by unfold nch; infer_instance
/-- How many bytes of a number's alphabet stand ahead. -/
def nl : List Int → Nat
 | [] => 0
 | c :: l => if nch c then nl l + 1 else 0
theorem nl_le : ∀ l : List Int, nl l ≤ l.length
 | [] => Nat.le_refl _
 | c :: l => by
  rw [nl]
  have := nl_le l
  split <;> simp <;> omega
theorem nbytes_l0 {s : ByteArray} (hs : s.size ≤ 100000) : ∀ (d i : Nat), i + d = s.size → Ev (fun k => spec_NumberBytes.l0 k s i) (((i + nl ((bytesOf s).drop i) : Nat)) : Int)
 | 0, i, hd => by
  rw [List.drop_of_length_le (by rw [bytesOf_length]; omega), nl]
  exact ev_one fun k => by rw [spec_NumberBytes.l0, if_neg (by omega)]; rfl
 | d + 1, i, hd => by
  have hi : i < (bytesOf s).length := by rw [bytesOf_length]; omega
  have hb : bt s (i : Int) = (bytesOf s)[i] := by rw [bt_nat, List.getD_eq_getElem?_getD, List.getElem?_eq_getElem hi]; rfl
  have hw : wrap64 ((i : Int) + 1) = ((i + 1 : Nat) : Int) := by rw [wr (by omega) (by omega)]; omega
  rw [List.drop_eq_getElem_cons hi, ← hb, nl]
  by_cases hc : nch (bt s (i : Int))
  ·rw [if_pos hc, ← Nat.add_assoc, Nat.add_right_comm]
   refine Ev.step (fun k => ?_) (nbytes_l0 hs d (i + 1) (by omega))
   rw [spec_NumberBytes.l0, if_pos (by omega), if_pos (by omega), hw]
   unfold nch at hc
   generalize bt s (i : Int) = c at hc
   repeat' split
   all_goals first | rfl | (exfalso; omega)
  rw [if_neg hc, Nat.add_zero]
  refine ev_one fun k => ?_
  rw [spec_NumberBytes.l0, if_pos (by omega), if_pos (by omega)]
  unfold nch at hc
  generalize bt s (i : Int) = c at hc
  repeat' split
  all_goals first | rfl | (exfalso; omega)
theorem nbytes_ev {s : ByteArray} (hs : s.size ≤ 100000) : Ev (fun k => spec_NumberBytes.f k s) ((nl (bytesOf s) : Nat) : Int) := by
 have h := nbytes_l0 hs s.size 0 (by omega)
 rw [List.drop_zero, Nat.zero_add] at h
 exact h
/-! ### three letters -/
def low (c : Int) : Int := if 65 ≤ c ∧ c ≤ 90 then c + 32 else c
def f3 (y : ByteArray) (a b c : Int) : Prop := low (bt y 0) = a ∧ low (bt y 1) = b ∧ low (bt y 2) = c
instance (y : ByteArray) (a b c : Int) : Decidable (f3 y a b c) := by unfold f3; infer_instance
theorem or_low : ∀ b : Fin 256, ∀ w ∈ [(105 : Int), 110, 102, 97], (Go.bits .or .u8 (b.val : Int) 32 = w ↔ low (b.val : Int) = w) := by decide +kernel
theorem or_lo (s : ByteArray) (i w : Int) (hw : w ∈ [(105 : Int), 110, 102, 97]) : Go.bits .or .u8 (bt s i) 32 = w ↔ low (bt s i) = w := by
 have h := or_low ⟨(bt s i).toNat, by have := bt_hi s i; have := bt_lo s i; omega⟩ w hw
 have e : (((bt s i).toNat : Nat) : Int) = bt s i := by have := bt_lo s i; omega
 rw [← e]
 exact h
theorem fold_spec {y w : ByteArray} {a b c : Int} (hy : y.size = 3) (hw : w.size = 3) (h0 : bt w 0 = a) (h1 : bt w 1 = b) (h2 : bt w 2 = c) (ha : a ∈ [(105 : Int), 110, 102, 97]) (hb : b ∈ [(105 : Int), 110, 102, 97]) (hc : c ∈ [(105 : Int), 110, 102, 97]) :
  Ev (fun k => spec_folds.f k y w) (decide (f3 y a b c)) := by
 have l0 := or_lo y 0 a ha
 have l1 := or_lo y 1 b hb
 have l2 := or_lo y 2 c hc
 have w1 : wrap64 (0 + 1) = 1 := by rw [wr (by omega) (by omega)]; rfl
 have w2 : wrap64 (1 + 1) = 2 := by rw [wr (by omega) (by omega)]; rfl
 have w3 : wrap64 (2 + 1) = 3 := by rw [wr (by omega) (by omega)]; rfl
 show Ev (fun k => spec_folds.l0 k y w 0) _
 by_cases c0 : low (bt y 0) = a
 ·refine Ev.step (f := fun k => spec_folds.l0 k y w 1) (fun k => by rw [spec_folds.l0, if_pos (by omega), if_pos (by omega), if_pos (by omega), h0, if_pos (l0.2 c0), w1]) ?_
  by_cases c1 : low (bt y 1) = b
  ·refine Ev.step (f := fun k => spec_folds.l0 k y w 2) (fun k => by rw [spec_folds.l0, if_pos (by omega), if_pos (by omega), if_pos (by omega), h1, if_pos (l1.2 c1), w2]) ?_
   by_cases c2 : low (bt y 2) = c
   ·refine Ev.step (f := fun k => spec_folds.l0 k y w 3) (fun k => by rw [spec_folds.l0, if_pos (by omega), if_pos (by omega), if_pos (by omega), h2, if_pos (l2.2 c2), w3]) ?_
    rw [decide_eq_true (show f3 y a b c from ⟨c0, c1, c2⟩)]
    exact ev_one fun k => by rw [spec_folds.l0, if_neg (by omega)]
   rw [decide_eq_false (show ¬ f3 y a b c from fun h => c2 h.2.2)]
   exact ev_one fun k => by rw [spec_folds.l0, if_pos (by omega), if_pos (by omega), if_pos (by omega), h2, if_neg (fun h => c2 (l2.1 h))]
  rw [decide_eq_false (show ¬ f3 y a b c from fun h => c1 h.2.1)]
  exact ev_one fun k => by rw [spec_folds.l0, if_pos (by omega), if_pos (by omega), if_pos (by omega), h1, if_neg (fun h => c1 (l1.1 h))]
 rw [decide_eq_false (show ¬ f3 y a b c from fun h => c0 h.1)]
 exact ev_one fun k => by rw [spec_folds.l0, if_pos (by omega), if_pos (by omega), if_pos (by omega), h0, if_neg (fun h => c0 (l0.1 h))]
theorem zz_step {y w : ByteArray} (i : Int) (k : Nat) (hi : 0 ≤ i) (hy : i < y.size) (hw : i < w.size) : fastjson_zzFold.l0 (k + 2) y w i = if low (bt y i) = bt w i then fastjson_zzFold.l0 k y w (wrap64 (i + 1)) else some false := by
 have hlo := bt_lo y i
 have hhi := bt_hi y i
 rw [fastjson_zzFold.l0, if_pos hy, if_pos hi]
 unfold low
 by_cases h1 : 65 ≤ bt y i
 ·rw [if_pos h1]
  by_cases h2 : bt y i ≤ 90
  ·rw [decide_eq_true h2, fastjson_zzFold.j1, if_pos rfl, if_pos hi, if_pos hw, if_pos (show 65 ≤ bt y i ∧ bt y i ≤ 90 from ⟨h1, h2⟩), Int.emod_eq_of_lt (by omega) (by omega)]
  rw [decide_eq_false h2, fastjson_zzFold.j1, if_neg (by decide), if_pos hi, if_pos hw, if_neg (show ¬ (65 ≤ bt y i ∧ bt y i ≤ 90) from fun h => h2 h.2)]
 rw [if_neg h1, fastjson_zzFold.j1, if_neg (by decide), if_pos hi, if_pos hw, if_neg (show ¬ (65 ≤ bt y i ∧ bt y i ≤ 90) from fun h => h1 h.1)]
theorem Ev.step2 {α : Type} {g f : Nat → Option α} {r : α} (h : ∀ k, g (k + 2) = f k) (k : Ev f r) : Ev g r := by
 obtain ⟨K, hK⟩ := k
 refine ⟨K + 2, fun n hn => ?_⟩
 obtain ⟨m, rfl⟩ : ∃ m, n = m + 2 := ⟨n - 2, by omega⟩
 rw [h]
 exact hK m (by omega)
theorem fold_zz {y w : ByteArray} {a b c : Int} (hy : y.size = 3) (hw : w.size = 3) (h0 : bt w 0 = a) (h1 : bt w 1 = b) (h2 : bt w 2 = c) : Ev (fun k => fastjson_zzFold.f k y w) (decide (f3 y a b c)) := by
 have w1 : wrap64 (0 + 1) = 1 := by rw [wr (by omega) (by omega)]; rfl
 have w2 : wrap64 (1 + 1) = 2 := by rw [wr (by omega) (by omega)]; rfl
 have w3 : wrap64 (2 + 1) = 3 := by rw [wr (by omega) (by omega)]; rfl
 refine Ev.congr (f := fun k => fastjson_zzFold.l0 k y w 0) (fun k => by rw [fastjson_zzFold.f, if_pos (by omega)]) ?_
 by_cases c0 : low (bt y 0) = a
 ·refine Ev.step2 (f := fun k => fastjson_zzFold.l0 k y w 1) (fun k => by rw [zz_step 0 k (by omega) (by omega) (by omega), h0, if_pos c0, w1]) ?_
  by_cases c1 : low (bt y 1) = b
  ·refine Ev.step2 (f := fun k => fastjson_zzFold.l0 k y w 2) (fun k => by rw [zz_step 1 k (by omega) (by omega) (by omega), h1, if_pos c1, w2]) ?_
   by_cases c2 : low (bt y 2) = c
   ·refine Ev.step2 (f := fun k => fastjson_zzFold.l0 k y w 3) (fun k => by rw [zz_step 2 k (by omega) (by omega) (by omega), h2, if_pos c2, w3]) ?_
    rw [decide_eq_true (show f3 y a b c from ⟨c0, c1, c2⟩)]
    exact ev_one fun k => by rw [fastjson_zzFold.l0, if_neg (by omega)]
   rw [decide_eq_false (show ¬ f3 y a b c from fun h => c2 h.2.2)]
   exact Ev.step2 (f := fun k => some false) (fun k => by rw [zz_step 2 k (by omega) (by omega) (by omega), h2, if_neg c2]) (Ev.now _)
  rw [decide_eq_false (show ¬ f3 y a b c from fun h => c1 h.2.1)]
  exact Ev.step2 (f := fun k => some false) (fun k => by rw [zz_step 1 k (by omega) (by omega) (by omega), h1, if_neg c1]) (Ev.now _)
 rw [decide_eq_false (show ¬ f3 y a b c from fun h => c0 h.1)]
 exact Ev.step2 (f := fun k => some false) (fun k => by rw [zz_step 0 k (by omega) (by omega) (by omega), h0, if_neg c0]) (Ev.now _)
def inf3 (y : ByteArray) : Prop := f3 y 105 110 102
def nan3 (y : ByteArray) : Prop := f3 y 110 97 110
instance (y : ByteArray) : Decidable (inf3 y) := by unfold inf3; infer_instance
instance (y : ByteArray) : Decidable (nan3 y) := by unfold nan3; infer_instance
theorem inf_spec {y : ByteArray} (hy : y.size = 3) : Ev (fun k => spec_folds.f k y (⟨#[105, 110, 102]⟩ : ByteArray)) (decide (inf3 y)) := fold_spec hy rfl rfl rfl rfl (by decide) (by decide) (by decide)
theorem nan_spec {y : ByteArray} (hy : y.size = 3) : Ev (fun k => spec_folds.f k y (⟨#[110, 97, 110]⟩ : ByteArray)) (decide (nan3 y)) := fold_spec hy rfl rfl rfl rfl (by decide) (by decide) (by decide)
theorem inf_zz {y : ByteArray} (hy : y.size = 3) : Ev (fun k => fastjson_zzFold.f k y (⟨#[105, 110, 102]⟩ : ByteArray)) (decide (inf3 y)) := fold_zz hy rfl rfl rfl rfl
theorem nan_zz {y : ByteArray} (hy : y.size = 3) : Ev (fun k => fastjson_zzFold.f k y (⟨#[110, 97, 110]⟩ : ByteArray)) (decide (nan3 y)) := fold_zz hy rfl rfl rfl rfl
/-! ### the number that a text begins with -/
/-- Whether letters may follow. -/
def lets (s : ByteArray) : Prop := nl (bytesOf s) = 0 ∨ (nl (bytesOf s) = 1 ∧ (bt s 0 = 45 ∨ bt s 0 = 43))
instance (s : ByteArray) : Decidable (lets s) := by unfold lets; infer_instance
/-- How long it is; 0: there is none. -/
def num (s : ByteArray) : Nat :=
 let n := nl (bytesOf s)
 if n = s.size then n else if lets s then (if n + 3 ≤ s.size ∧ (inf3 (s.extract n (n + 3)) ∨ nan3 (s.extract n (n + 3))) then n + 3 else 0) else n
theorem mid_size {s : ByteArray} {a b : Nat} (h : b ≤ s.size) : (s.extract a b).size = b - a := by
 rw [← bytesOf_length, bytesOf_extract, List.length_drop, List.length_take, bytesOf_length]; omega
theorem mid_eq {s : ByteArray} {n : Nat} (h : n + 3 ≤ s.size) : (s.extract n s.size).extract 0 3 = s.extract n (n + 3) := by
 apply bytesOf_inj
 rw [bytesOf_extract, suf_bytes, bytesOf_extract, List.drop_zero, List.take_drop]
theorem num_le (s : ByteArray) : num s ≤ s.size := by
 have := nl_le (bytesOf s)
 rw [bytesOf_length] at this
 unfold num
 simp only
 split
 ·omega
 split
 ·split
  ·omega
  omega
 omega
theorem fjnum_ev {s : ByteArray} (hs : s.size ≤ 4000) : Ev (fun k => spec_fjNumber.f k s) ((num s : Nat) : Int) := by
 have hn := nbytes_ev (s := s) (by omega)
 have hle := nl_le (bytesOf s)
 rw [bytesOf_length] at hle
 obtain ⟨n, hnn⟩ : ∃ n, n = nl (bytesOf s) := ⟨_, rfl⟩
 rw [← hnn] at hn hle
 have yes : Ev (fun k => spec_fjNumber.j0 k s n true) (n : Int) := ev_one fun k => by rw [spec_fjNumber.j0, if_pos rfl]
 refine Ev.bind (f := fun k t => if t > 1 then (spec_fjNumber.j0 k s t true) else (if t = (s.size : Int) then (spec_fjNumber.j0 k s t true) else (if t = 1 then (if 0 < (s.size : Int) then (if (bt s 0) = 45 then (spec_fjNumber.j0 k s t false) else (spec_fjNumber.j0 k s t ((bt s 0) != 43))) else (none)) else (spec_fjNumber.j0 k s t false)))) hn ?_
 by_cases hsz : n = s.size
 ·have e : num s = n := by unfold num; simp only; rw [← hnn, if_pos hsz]
  rw [e]
  refine Ev.congr (fun k => ?_) yes
  by_cases h1 : (n : Int) > 1
  ·rw [if_pos h1]
  rw [if_neg h1, if_pos (by omega)]
 by_cases hl : lets s
 ·have hl' := hl
  unfold lets at hl'
  rw [← hnn] at hl'
  have e : num s = if n + 3 ≤ s.size ∧ (inf3 (s.extract n (n + 3)) ∨ nan3 (s.extract n (n + 3))) then n + 3 else 0 := by unfold num; simp only; rw [← hnn, if_neg hsz, if_pos hl]
  rw [e]
  have no : Ev (fun k => spec_fjNumber.j0 k s n false) ((if n + 3 ≤ s.size ∧ (inf3 (s.extract n (n + 3)) ∨ nan3 (s.extract n (n + 3))) then n + 3 else 0 : Nat) : Int) := by
   by_cases h3 : n + 3 ≤ s.size
   ·have hm := mid_size (s := s) (a := n) (b := n + 3) h3
    have hi := inf_spec (y := s.extract n (n + 3)) (by omega)
    have ha := nan_spec (y := s.extract n (n + 3)) (by omega)
    have hw : wrap64 ((n : Int) + 3) = ((n + 3 : Nat) : Int) := by rw [wr (by omega) (by omega)]; omega
    have hsf := suf_size s n
    have st : ∀ k, spec_fjNumber.j0 (k + 1) s n false = (spec_folds.f k (s.extract n (n + 3)) (⟨#[105, 110, 102]⟩ : ByteArray)).bind fun t => if t = true then some ((n + 3 : Nat) : Int) else (spec_folds.f k (s.extract n (n + 3)) (⟨#[110, 97, 110]⟩ : ByteArray)).bind fun t => if t = true then some ((n + 3 : Nat) : Int) else some 0 := fun k => by
     rw [spec_fjNumber.j0, if_neg (by decide), if_pos (by omega), if_pos (by omega), Int.toNat_natCast, if_pos (by omega), if_pos (by omega), if_pos (by omega), mid_eq h3, hw]
    refine Ev.step st (Ev.bind (f := fun k t => if t = true then some ((n + 3 : Nat) : Int) else (spec_folds.f k (s.extract n (n + 3)) (⟨#[110, 97, 110]⟩ : ByteArray)).bind fun t => if t = true then some ((n + 3 : Nat) : Int) else some 0) hi ?_)
    by_cases c1 : inf3 (s.extract n (n + 3))
    ·rw [if_pos (show n + 3 ≤ s.size ∧ (inf3 (s.extract n (n + 3)) ∨ nan3 (s.extract n (n + 3))) from ⟨h3, .inl c1⟩)]
     exact ev_const fun k => by rw [decide_eq_true c1, if_pos rfl]
    refine Ev.congr (f := fun k => (spec_folds.f k (s.extract n (n + 3)) (⟨#[110, 97, 110]⟩ : ByteArray)).bind fun t => if t = true then some ((n + 3 : Nat) : Int) else some 0) (fun k => by rw [decide_eq_false c1, if_neg (by decide)]) (Ev.bind (f := fun _ t => if t = true then some ((n + 3 : Nat) : Int) else some 0) ha ?_)
    by_cases c2 : nan3 (s.extract n (n + 3))
    ·rw [if_pos (show n + 3 ≤ s.size ∧ (inf3 (s.extract n (n + 3)) ∨ nan3 (s.extract n (n + 3))) from ⟨h3, .inr c2⟩)]
     exact ev_const fun k => by rw [decide_eq_true c2, if_pos rfl]
    rw [if_neg (show ¬ (n + 3 ≤ s.size ∧ (inf3 (s.extract n (n + 3)) ∨ nan3 (s.extract n (n + 3)))) from fun h => h.2.elim c1 c2)]
    exact ev_const fun k => by rw [decide_eq_false c2, if_neg (by decide)]; rfl
   rw [if_neg (show ¬ (n + 3 ≤ s.size ∧ (inf3 (s.extract n (n + 3)) ∨ nan3 (s.extract n (n + 3)))) from fun h => h3 h.1)]
   have hsf := suf_size s n
   exact ev_one fun k => by
    rw [spec_fjNumber.j0, if_neg (by decide), if_pos (by omega), if_pos (by omega), Int.toNat_natCast, if_neg (by omega)]; rfl
  refine Ev.congr (fun k => ?_) no
  rw [if_neg (by omega), if_neg (by omega)]
  by_cases h1 : n = 1
  ·rw [if_pos (by omega), if_pos (by omega)]
   by_cases c1 : bt s 0 = 45
   ·rw [if_pos c1]
   rw [if_neg c1]
   have c2 : bt s 0 = 43 := by omega
   rw [c2]; rfl
  rw [if_neg (by omega)]
 have hl' := hl
 unfold lets at hl'
 rw [← hnn] at hl'
 have e : num s = n := by unfold num; simp only; rw [← hnn, if_neg hsz, if_neg hl]
 rw [e]
 refine Ev.congr (fun k => ?_) yes
 by_cases h1 : (n : Int) > 1
 ·rw [if_pos h1]
 have h2 : n = 1 := by omega
 have h3 : bt s 0 ≠ 45 := by omega
 have h4 : (bt s 0 != 43) = true := bne_iff_ne.2 (by omega)
 rw [if_neg h1, if_neg (by omega), if_pos (by omega), if_pos (by omega), if_neg h3, h4]
theorem nl_at : ∀ (l : List Int) (i : Nat), i < nl l → nch (l.getD i 0)
 | [], i, h => by cases h
 | c :: l, i, h => by
  rw [nl] at h
  split at h
  ·rename_i hc
   cases i with
   | zero => exact hc
   | succ i => exact nl_at l i (by omega)
  omega
theorem nl_end : ∀ (l : List Int), nl l < l.length → ¬ nch (l.getD (nl l) 0)
 | [], h => by cases h
 | c :: l, h => by
  by_cases hc : nch c
  ·have e : nl (c :: l) = nl l + 1 := by rw [nl, if_pos hc]
   rw [e] at h ⊢
   exact nl_end l (by simpa using h)
  have e : nl (c :: l) = 0 := by rw [nl, if_neg hc]
  rw [e]
  exact hc
theorem rawnum_go {s : ByteArray} (hs : s.size ≤ 4000) {R : ByteArray × ByteArray × Option Int} : ∀ (d i : Nat), i + d = nl (bytesOf s) → Ev (fun k => fastjson_parseRawNumber.l0 k s s.size (nl (bytesOf s) : Nat)) R → Ev (fun k => fastjson_parseRawNumber.l0 k s s.size i) R
 | 0, i, hd, h => by
  have e : i = nl (bytesOf s) := by omega
  rw [e]; exact h
 | d + 1, i, hd, h => by
  have hle := nl_le (bytesOf s)
  rw [bytesOf_length] at hle
  have hc : nch (bt s (i : Int)) := by
   rw [bt_nat]
   exact nl_at _ i (by omega)
  have hw : wrap64 ((i : Int) + 1) = ((i + 1 : Nat) : Int) := by rw [wr (by omega) (by omega)]; omega
  have ih := rawnum_go hs d (i + 1) (by omega) h
  have st : Ev (fun k => fastjson_parseRawNumber.j1 k s i s.size i true) R := Ev.step (fun k => by rw [fastjson_parseRawNumber.j1, if_pos rfl, hw]) ih
  refine Ev.step (fun k => ?_) st
  rw [fastjson_parseRawNumber.l0, if_pos (by omega), if_pos (by omega), if_pos (by omega)]
  unfold nch at hc
  generalize bt s (i : Int) = c at hc
  repeat' split
  all_goals first | rfl | (exfalso; omega) | (have e : c = 43 := (by omega); rw [e]; rfl)
/-- What the package's number is. -/
def NumSaid (s : ByteArray) (R : ByteArray × ByteArray × Option Int) : Prop := if num s = 0 then R.2.2 = some 0 else R = (s.extract 0 (num s), s.extract (num s) s.size, none)
theorem rawnum_ev {s : ByteArray} (hs : s.size ≤ 4000) (h0 : 0 < s.size) : ∃ R, Ev (fun k => fastjson_parseRawNumber.f k s) R ∧ NumSaid s R := by
 have hle := nl_le (bytesOf s)
 rw [bytesOf_length] at hle
 have hend := nl_end (bytesOf s)
 rw [bytesOf_length] at hend
 have go : ∀ {R : ByteArray × ByteArray × Option Int}, Ev (fun k => fastjson_parseRawNumber.l0 k s s.size (nl (bytesOf s) : Nat)) R → Ev (fun k => fastjson_parseRawNumber.f k s) R := fun {R} h => rawnum_go hs (nl (bytesOf s)) 0 (by omega) h
 obtain ⟨n, hnn⟩ : ∃ n, n = nl (bytesOf s) := ⟨_, rfl⟩
 rw [← hnn] at go hle hend
 by_cases hsz : n = s.size
 ·have e : num s = n := by unfold num; simp only; rw [← hnn, if_pos hsz]
  refine ⟨_, go (ev_one fun k => by rw [fastjson_parseRawNumber.l0, if_neg (by omega)]), ?_⟩
  unfold NumSaid
  rw [e, if_neg (by omega), hsz]
  refine Prod.ext ?_ (Prod.ext ?_ rfl)
  ·apply bytesOf_inj
   simp only
   rw [suf_bytes, List.drop_zero]
  apply bytesOf_inj
  simp only
  rw [suf_bytes, List.drop_of_length_le (by rw [bytesOf_length]; exact Nat.le_refl _)]
  rfl
 have hb := hend (by omega)
 rw [← bt_nat] at hb
 have st : ∀ {R : ByteArray × ByteArray × Option Int}, Ev (fun k => fastjson_parseRawNumber.j1 k s n s.size n false) R → Ev (fun k => fastjson_parseRawNumber.l0 k s s.size n) R := fun {R} h => by
  refine Ev.step (fun k => ?_) h
  rw [fastjson_parseRawNumber.l0, if_pos (by omega), if_pos (by omega), if_pos (by omega)]
  unfold nch at hb
  generalize bt s (n : Int) = c at hb
  have e : (c == 43) = false := beq_eq_false_iff_ne.2 (by omega)
  rw [e]
  repeat' split
  all_goals first | rfl | (exfalso; omega)
 by_cases hl : lets s
 ·have hl' := hl
  unfold lets at hl'
  rw [← hnn] at hl'
  have e : num s = if n + 3 ≤ s.size ∧ (inf3 (s.extract n (n + 3)) ∨ nan3 (s.extract n (n + 3))) then n + 3 else 0 := by unfold num; simp only; rw [← hnn, if_neg hsz, if_pos hl]
  have st2 : ∀ {R : ByteArray × ByteArray × Option Int}, Ev (fun k => fastjson_parseRawNumber.j2 k s n true) R → Ev (fun k => fastjson_parseRawNumber.j1 k s n s.size n false) R := fun {R} h => by
   refine Ev.step (fun k => ?_) h
   rw [fastjson_parseRawNumber.j1, if_neg (by decide)]
   by_cases h1 : n = 1
   ·rw [if_neg (by omega), if_pos (by omega), if_pos (by omega)]
    by_cases c1 : bt s 0 = 45
    ·rw [if_pos c1]
    rw [if_neg c1]
    have c2 : bt s 0 = 43 := by omega
    rw [c2]; rfl
   rw [if_pos (by omega)]
  have hsf := suf_size s n
  by_cases h3 : n + 3 ≤ s.size
  ·have hm := mid_size (s := s) (a := n) (b := n + 3) h3
   have hi := inf_zz (y := s.extract n (n + 3)) (by omega)
   have ha := nan_zz (y := s.extract n (n + 3)) (by omega)
   have hw : wrap64 ((n : Int) + 3) = ((n + 3 : Nat) : Int) := by rw [wr (by omega) (by omega)]; omega
   have st3 : ∀ k, fastjson_parseRawNumber.j2 (k + 1) s n true = (fastjson_zzFold.f k (s.extract n (n + 3)) (⟨#[105, 110, 102]⟩ : ByteArray)).bind fun t => if t = true then some (s.extract 0 (n + 3), s.extract (n + 3) s.size, none) else (fastjson_zzFold.f k (s.extract n (n + 3)) (⟨#[110, 97, 110]⟩ : ByteArray)).bind fun t => if t = true then some (s.extract 0 (n + 3), s.extract (n + 3) s.size, none) else some ((⟨#[]⟩ : ByteArray), s, some 0) := fun k => by
    rw [fastjson_parseRawNumber.j2, if_pos rfl, if_pos (by omega), if_pos (by omega), Int.toNat_natCast, if_pos (by omega), hw, if_pos (by omega), if_pos (by omega), Int.toNat_natCast]
    have h03 : (0 : Int) ≤ ((n + 3 : Nat) : Int) := by omega
    simp only [if_pos h03, errors_New.f, Option.bind_some]
   by_cases c1 : inf3 (s.extract n (n + 3))
   ·refine ⟨(s.extract 0 (n + 3), s.extract (n + 3) s.size, none), go (st (st2 (Ev.step st3 (Ev.bind (f := fun k t => if t = true then some (s.extract 0 (n + 3), s.extract (n + 3) s.size, none) else (fastjson_zzFold.f k (s.extract n (n + 3)) (⟨#[110, 97, 110]⟩ : ByteArray)).bind fun t => if t = true then some (s.extract 0 (n + 3), s.extract (n + 3) s.size, none) else some ((⟨#[]⟩ : ByteArray), s, some 0)) hi (ev_const fun k => by rw [decide_eq_true c1, if_pos rfl]))))), ?_⟩
    unfold NumSaid
    rw [e, if_pos (show n + 3 ≤ s.size ∧ (inf3 (s.extract n (n + 3)) ∨ nan3 (s.extract n (n + 3))) from ⟨h3, .inl c1⟩), if_neg (by omega)]
   have st4 : ∀ {R : ByteArray × ByteArray × Option Int}, Ev (fun k => (fastjson_zzFold.f k (s.extract n (n + 3)) (⟨#[110, 97, 110]⟩ : ByteArray)).bind fun t => if t = true then some (s.extract 0 (n + 3), s.extract (n + 3) s.size, none) else some ((⟨#[]⟩ : ByteArray), s, some 0)) R → Ev (fun k => fastjson_parseRawNumber.f k s) R := fun {R} h =>
    go (st (st2 (Ev.step st3 (Ev.bind (f := fun k t => if t = true then some (s.extract 0 (n + 3), s.extract (n + 3) s.size, none) else (fastjson_zzFold.f k (s.extract n (n + 3)) (⟨#[110, 97, 110]⟩ : ByteArray)).bind fun t => if t = true then some (s.extract 0 (n + 3), s.extract (n + 3) s.size, none) else some ((⟨#[]⟩ : ByteArray), s, some 0)) hi (Ev.congr (fun k => by rw [decide_eq_false c1, if_neg (by decide)]) h)))))
   by_cases c2 : nan3 (s.extract n (n + 3))
   ·refine ⟨(s.extract 0 (n + 3), s.extract (n + 3) s.size, none), st4 (Ev.bind (f := fun _ t => if t = true then some (s.extract 0 (n + 3), s.extract (n + 3) s.size, none) else some ((⟨#[]⟩ : ByteArray), s, some 0)) ha (ev_const fun k => by rw [decide_eq_true c2, if_pos rfl])), ?_⟩
    unfold NumSaid
    rw [e, if_pos (show n + 3 ≤ s.size ∧ (inf3 (s.extract n (n + 3)) ∨ nan3 (s.extract n (n + 3))) from ⟨h3, .inr c2⟩), if_neg (by omega)]
   refine ⟨((⟨#[]⟩ : ByteArray), s, some 0), st4 (Ev.bind (f := fun _ t => if t = true then some (s.extract 0 (n + 3), s.extract (n + 3) s.size, none) else some ((⟨#[]⟩ : ByteArray), s, some 0)) ha (ev_const fun k => by rw [decide_eq_false c2, if_neg (by decide)])), ?_⟩
   unfold NumSaid
   rw [e, if_neg (show ¬ (n + 3 ≤ s.size ∧ (inf3 (s.extract n (n + 3)) ∨ nan3 (s.extract n (n + 3)))) from fun h => h.2.elim c1 c2), if_pos rfl]
  refine ⟨((⟨#[]⟩ : ByteArray), s, some 0), go (st (st2 (ev_one fun k => by
   rw [fastjson_parseRawNumber.j2, if_pos rfl, if_pos (by omega), if_pos (by omega), Int.toNat_natCast, if_neg (by omega)]
   rfl))), ?_⟩
  unfold NumSaid
  rw [e, if_neg (show ¬ (n + 3 ≤ s.size ∧ (inf3 (s.extract n (n + 3)) ∨ nan3 (s.extract n (n + 3)))) from fun h => h3 h.1), if_pos rfl]
 have hl' := hl
 unfold lets at hl'
 rw [← hnn] at hl'
 have e : num s = n := by unfold num; simp only; rw [← hnn, if_neg hsz, if_neg hl]
 refine ⟨(s.extract 0 n, s.extract n s.size, none), go (st (Ev.step (f := fun k => fastjson_parseRawNumber.j2 k s n false) (fun k => ?_) (ev_one fun k => ?_))), ?_⟩
 ·rw [fastjson_parseRawNumber.j1, if_neg (by decide), if_neg (by omega)]
  by_cases h1 : n = 1
  ·have h3 : bt s 0 ≠ 45 := by omega
   have h4 : (bt s 0 == 43) = false := beq_eq_false_iff_ne.2 (by omega)
   rw [if_pos (by omega), if_pos (by omega), if_neg h3, h4]
  rw [if_neg (by omega)]
 ·rw [fastjson_parseRawNumber.j2, if_neg (by decide), if_pos (by omega), if_pos (by omega), Int.toNat_natCast]
 unfold NumSaid
 rw [e, if_neg (by omega)]
end Go.Proofs.YtnajijaachgipaaDoor.J
end
section
namespace Go.Proofs.YtnajijaachgipaaDoor.J
open Go.RowKit Go.Proofs.YtnajijaachgipaaDoor.PT Go.Proofs.YtnajijaachgipaaDoor.PT.FJ Go.Proofs.YtnajijaachgipaaDoor.H Go.Proofs.YtnajijaachgipaaDoorW.PrintWords Go.Proofs.YtnajijaachgipaaDoorW.PrintLast
set_option linter.unusedSimpArgs false
set_option linter.unusedVariables false
/-! ### the two trees -/
def kd (k : Int) : Int := if k = 7 then 4 else if k = 1 then 6 else if k = 2 then 5 else if k = 4 then 3 else if k = 5 then 2 else if k = 6 then 1 else 0
mutual
def conv : FT → S30
 | .mk k s ks ts => ⟨kd k, s, ks, false, convs ts⟩
def convs : List FT → List S30
 | [] => []
 | t :: ts => conv t :: convs ts
end
theorem convs_append : ∀ a b : List FT, convs (a ++ b) = convs a ++ convs b
 | [], b => rfl
 | t :: a, b => by rw [List.cons_append, convs, convs, convs_append a b]; rfl
theorem convs_length : ∀ a : List FT, (convs a).length = a.length
 | [] => rfl
 | t :: a => by rw [convs, List.length_cons, List.length_cons, convs_length a]
abbrev Rd := Int × ByteArray × List ByteArray × Bool × List S30 × ByteArray × Bool
def no (q : Rd) : Prop := q.2.2.2.2.2.2 = false
def yes (t : FT) (r : ByteArray) : Rd := ((conv t).f0, (conv t).f1, (conv t).f2, (conv t).f3, (conv t).f4, r, true)
/-- What the reference reads is what the package makes; and how long it is. -/
def Fits (s : ByteArray) : Res → Rd → Prop
 | none, q => no q
 | some x, q => q = yes x.1 x.2 ∧ x.2.size < s.size ∧ (txt x.1).length + x.2.size ≤ s.size
def AG (s : ByteArray) (d : Int) : Prop := ∃ (R : Res) (q : Rd), Ev (fun k => pV k s d) R ∧ Ev (fun k => spec_BeginFj.f k s d) q ∧ Fits s R q
/-! ### the package's pieces -/
theorem sk_ev {s : ByteArray} (hs : s.size ≤ 100000) : Ev (fun k => sk k s) (skip s) := by
 obtain ⟨K, h⟩ := ws_ev hs
 simp only at h
 exact ⟨K, fun k hk => by unfold sk; simp only; rw [h k hk, Option.bind_some, if_pos (skip_size s)]⟩
theorem raw_small {s : ByteArray} {R : ByteArray × ByteArray × Option Int} (h : RawSaid s 0 R) : R.2.1.size ≤ s.size := by
 obtain ⟨h⟩ := h
 split at h
 ·rw [h]; simp only; rw [suf_size]; omega
 rw [h]; exact Nat.zero_le _
theorem rs_ev {s : ByteArray} (hs : s.size ≤ 4000) : ∃ R, Ev (fun k => rs k s) R ∧ RawSaid s 0 R := by
 obtain ⟨R, ⟨K, h⟩, hR⟩ := raw_ev hs
 simp only at h
 exact ⟨R, ⟨K, fun k hk => by unfold rs; simp only; rw [h k hk, Option.bind_some, if_pos (raw_small hR)]⟩, hR⟩
theorem rk_ev {s : ByteArray} (hs : s.size ≤ 4000) : ∃ R, Ev (fun k => rk k s) R ∧ RawSaid s 0 R := by
 obtain ⟨R, ⟨K, h⟩, hR⟩ := rkey_ev hs
 simp only at h
 exact ⟨R, ⟨K, fun k hk => by unfold rk; simp only; rw [h k hk, Option.bind_some, if_pos (raw_small hR)]⟩, hR⟩
theorem rn_ev {s : ByteArray} (hs : s.size ≤ 4000) (h0 : 0 < s.size) : ∃ R, Ev (fun k => rn k s) R ∧ NumSaid s R := by
 obtain ⟨R, ⟨K, h⟩, hR⟩ := rawnum_ev hs h0
 refine ⟨R, ⟨K, fun k hk => ?_⟩, hR⟩
 unfold rn
 simp only at h ⊢
 rw [h k hk, Option.bind_some, if_pos]
 unfold NumSaid at hR
 split at hR
 ·left; rw [hR]; rfl
 right; rw [hR]; simp only; rw [suf_size]; omega
/-! ### arrays -/
def tl : List FT → Nat
 | [] => 0
 | t :: ts => (txt t).length + 1 + tl ts
theorem tl_append : ∀ a b : List FT, tl (a ++ b) = tl a + tl b
 | [], b => by simp [tl]
 | t :: a, b => by rw [List.cons_append, tl, tl, tl_append a b]; omega
theorem txtA_tl : ∀ ts : List FT, ts ≠ [] → (txtA ts).length + 1 = tl ts
 | [], h => absurd rfl h
 | [t], _ => by simp [txtA, tl]
 | t :: t2 :: ts, _ => by
  have := txtA_tl (t2 :: ts) (by simp)
  rw [txtA, tl]
  simp only [List.length_append, List.length_cons] at this ⊢
  omega
theorem rest_eq (s : ByteArray) (n : Nat) : rest s n = s.extract n s.size := rfl
def FitsA (s : ByteArray) (ts : List FT) : Res → Rd → Prop
 | none, q => no q
 | some x, q => ∃ ts', x.1 = .mk 2 ByteArray.empty [] ts' ∧ q = yes x.1 x.2 ∧ x.2.size < s.size ∧ tl ts' + x.2.size ≤ tl ts + s.size ∧ ts' ≠ []
set_option maxHeartbeats 4000000 in
theorem arr_agree (N : Nat) (hN : N ≤ 4001) (IH : ∀ s d, s.size < N → 0 ≤ d → d ≤ 300 → AG s d) : ∀ (m : Nat) (s : ByteArray) (d : Int) (ts : List FT), s.size ≤ m → s.size < N → 0 ≤ d → d < 300 → ts.length + s.size ≤ 4000 →
  ∃ (R : Res) (q : Rd), Ev (fun k => pAl k s (d + 1) ts) R ∧ Ev (fun k => spec_fjList.l0 k (skip s) d 93 5 (⟨#[]⟩ : ByteArray) [] false (convs ts)) q ∧ FitsA s ts R q
 | m, s, d, ts, hm, hsN, hd0, hd1, hlen => by
  have hx := skip_size s
  obtain ⟨K0, h0⟩ := sk_ev (s := s) (by omega)
  obtain ⟨Rv, qv, ⟨K1, h1⟩, ⟨K2, h2⟩, hF⟩ := IH (skip s) (d + 1) (by omega) (by omega) (by omega)
  have hw : wrap64 (d + 1) = d + 1 := wr (by omega) (by omega)
  obtain ⟨K3, h3⟩ := skipped qv.2.2.2.2.2.1
  simp only at h0 h1 h2 h3
  have hcl : (convs ts).length < 1759218604441 := by rw [convs_length]; omega
  cases Rv with
  | none =>
   refine ⟨none, _, ⟨K0 + K1 + 1, fun k hk => ?_⟩, ⟨K2 + K3 + 3, fun k hk => ?_⟩, (rfl : no ((0 : Int), (⟨#[]⟩ : ByteArray), ([] : List ByteArray), false, ([] : List S30), (⟨#[]⟩ : ByteArray), false))⟩
   ·obtain ⟨j, rfl⟩ : ∃ j, k = j + 1 := ⟨k - 1, by omega⟩
    simp only
    rw [pAl, h0 j (by omega), Option.bind_some, h1 j (by omega), Option.bind_some]
   obtain ⟨j, rfl⟩ : ∃ j, k = j + 3 := ⟨k - 3, by omega⟩
   have hq : ¬ qv.2.2.2.2.2.2 = true := by rw [show qv.2.2.2.2.2.2 = false from hF]; decide
   simp only
   rw [spec_fjList.l0, if_neg (by decide), spec_fjList.j3, hw, h2 (j + 1) (by omega), Option.bind_some, h3 (j + 1) (by omega), Option.bind_some, if_neg hq, spec_fjList.j4, if_pos rfl]
  | some x =>
   obtain ⟨t, r⟩ := x
   obtain ⟨hq, hr, hl⟩ := hF
   rw [hq] at h2 h3
   change ∀ k, K3 ≤ k → spec_skipped.f k r = some (skip r) at h3
   have hy := skip_size r
   obtain ⟨K4, h4⟩ := sk_ev (s := r) (by simp only at hr; omega)
   simp only at h4
   simp only at hr hl
   have pk : ∀ j, K0 + K1 + K4 ≤ j → pAl (j + 1) s (d + 1) ts = if (skip r).size = 0 then some none else if bt (skip r) 0 = 44 then pAl j (rest (skip r) 1) (d + 1) (ts ++ [t]) else if bt (skip r) 0 = 93 then some (some (.mk 2 ByteArray.empty [] (ts ++ [t]), rest (skip r) 1)) else some none := fun j hj => by
    rw [pAl, h0 j (by omega), Option.bind_some, h1 j (by omega), Option.bind_some]
    show (sk j r).bind _ = _
    rw [h4 j (by omega), Option.bind_some]
   have sp : ∀ j, K2 + K3 ≤ j → spec_fjList.l0 (j + 2) (skip s) d 93 5 (⟨#[]⟩ : ByteArray) [] false (convs ts) = if (skip r).toList = ([] : List UInt8) then spec_fjList.j4 j (skip r) d 93 true 5 (⟨#[]⟩ : ByteArray) [] false (convs ts) (conv t).f0 (conv t).f1 (conv t).f2 (conv t).f3 (conv t).f4 else (if 0 < ((skip r).size : Int) then (if (bt (skip r) 0) = 44 then (spec_fjList.j4 j (skip r) d 93 false 5 (⟨#[]⟩ : ByteArray) [] false (convs ts) (conv t).f0 (conv t).f1 (conv t).f2 (conv t).f3 (conv t).f4) else (spec_fjList.j4 j (skip r) d 93 ((bt (skip r) 0) != 93) 5 (⟨#[]⟩ : ByteArray) [] false (convs ts) (conv t).f0 (conv t).f1 (conv t).f2 (conv t).f3 (conv t).f4)) else (none)) := fun j hj => by
    rw [spec_fjList.l0, if_neg (by decide), spec_fjList.j3, hw, h2 j (by omega), Option.bind_some]
    show (spec_skipped.f j r).bind _ = _
    rw [h3 j (by omega), Option.bind_some]
    show (if true = true then _ else _) = _
    rw [if_pos rfl]
    rfl
   have hko : convs ts ++ [(⟨(conv t).f0, (conv t).f1, (conv t).f2, (conv t).f3, (conv t).f4⟩ : S30)] = convs (ts ++ [t]) := by
    rw [convs_append, convs, convs]
    generalize conv t = c
    cases c
    rfl
   by_cases y0 : (skip r).size = 0
   ·refine ⟨none, _, ⟨K0 + K1 + K4 + 1, fun k hk => ?_⟩, ⟨K2 + K3 + 3, fun k hk => ?_⟩, (rfl : no ((0 : Int), (⟨#[]⟩ : ByteArray), ([] : List ByteArray), false, ([] : List S30), (⟨#[]⟩ : ByteArray), false))⟩
    ·obtain ⟨j, rfl⟩ : ∃ j, k = j + 1 := ⟨k - 1, by omega⟩
     simp only
     rw [pk j (by omega), if_pos y0]
    obtain ⟨j, rfl⟩ : ∃ j, k = (j + 1) + 2 := ⟨k - 3, by omega⟩
    simp only
    rw [sp (j + 1) (by omega), if_pos ((toList_nil _).2 y0), spec_fjList.j4, if_pos rfl]
   have yn : ¬ (skip r).toList = ([] : List UInt8) := fun e => y0 ((toList_nil _).1 e)
   have hrs : (rest (skip r) 1).size = (skip r).size - 1 := suf_size _ _
   by_cases y1 : bt (skip r) 0 = 44
   ·have y93 : ¬ bt (skip r) 0 = 93 := by omega
    cases m with
    | zero => omega
    | succ m =>
    obtain ⟨R, q, ⟨K5, h5⟩, ⟨K6, h6⟩, hq2⟩ := arr_agree N hN IH m (rest (skip r) 1) d (ts ++ [t]) (by omega) (by omega) hd0 hd1 (by rw [List.length_append, List.length_singleton]; omega)
    obtain ⟨K7, h7⟩ := skipped ((skip r).extract 1 (skip r).size)
    simp only at h5 h6 h7
    rw [rest_eq] at h6
    refine ⟨R, q, ⟨K0 + K1 + K4 + K5 + 1, fun k hk => ?_⟩, ⟨K2 + K3 + K6 + K7 + 4, fun k hk => ?_⟩, ?_⟩
    ·obtain ⟨j, rfl⟩ : ∃ j, k = j + 1 := ⟨k - 1, by omega⟩
     simp only
     rw [pk j (by omega), if_neg y0, if_pos y1, h5 j (by omega)]
    ·obtain ⟨j, rfl⟩ : ∃ j, k = (j + 1) + 2 := ⟨k - 3, by omega⟩
     simp only
     rw [sp (j + 1) (by omega), if_neg yn, if_pos (by omega), if_pos y1, spec_fjList.j4, if_neg (by decide), if_pos hcl, Option.bind_some, if_pos (by omega), if_neg y93, if_pos (by omega), h7 j (by omega), Option.bind_some, hko]
     with_reducible exact h6 j (by omega)
    cases R with
    | none =>
     have hq3 : no q := hq2
     exact hq3
    | some z =>
     obtain ⟨ts', e1, e2, e3, e4, e5⟩ := hq2
     refine ⟨ts', e1, e2, by omega, ?_, e5⟩
     rw [tl_append] at e4
     simp only [tl] at e4
     omega
   by_cases y2 : bt (skip r) 0 = 93
   ·refine ⟨some (.mk 2 ByteArray.empty [] (ts ++ [t]), rest (skip r) 1), _, ⟨K0 + K1 + K4 + 1, fun k hk => ?_⟩, ⟨K2 + K3 + 3, fun k hk => ?_⟩, ts ++ [t], rfl, rfl, ?_, ?_, by simp⟩
    ·obtain ⟨j, rfl⟩ : ∃ j, k = j + 1 := ⟨k - 1, by omega⟩
     simp only
     rw [pk j (by omega), if_neg y0, if_neg y1, if_pos y2]
    ·obtain ⟨j, rfl⟩ : ∃ j, k = (j + 1) + 2 := ⟨k - 3, by omega⟩
     simp only
     rw [sp (j + 1) (by omega), if_neg yn, if_pos (by omega), if_neg y1, y2, spec_fjList.j4, if_neg (by decide), if_pos hcl, Option.bind_some, if_pos (by omega), if_pos y2, if_pos (by omega), hko]
     rfl
    ·show (rest (skip r) 1).size < s.size
     omega
    show tl (ts ++ [t]) + (rest (skip r) 1).size ≤ tl ts + s.size
    rw [tl_append]
    simp only [tl]
    omega
   have yb : (bt (skip r) 0 != 93) = true := bne_iff_ne.2 y2
   refine ⟨none, _, ⟨K0 + K1 + K4 + 1, fun k hk => ?_⟩, ⟨K2 + K3 + 3, fun k hk => ?_⟩, (rfl : no ((0 : Int), (⟨#[]⟩ : ByteArray), ([] : List ByteArray), false, ([] : List S30), (⟨#[]⟩ : ByteArray), false))⟩
   ·obtain ⟨j, rfl⟩ : ∃ j, k = j + 1 := ⟨k - 1, by omega⟩
    simp only
    rw [pk j (by omega), if_neg y0, if_neg y1, if_neg y2]
   obtain ⟨j, rfl⟩ : ∃ j, k = (j + 1) + 2 := ⟨k - 3, by omega⟩
   simp only
   rw [sp (j + 1) (by omega), if_neg yn, if_pos (by omega), if_neg y1, yb, spec_fjList.j4, if_pos rfl]
/-! ### objects -/
def tlo : List ByteArray → List FT → Nat
 | k :: ks, t :: ts => k.size + 4 + (txt t).length + tlo ks ts
 | _, _ => 0
theorem tlo_snoc : ∀ (ks : List ByteArray) (ts : List FT) (k : ByteArray) (t : FT), ks.length = ts.length → tlo (ks ++ [k]) (ts ++ [t]) = tlo ks ts + (k.size + 4 + (txt t).length)
 | [], [], k, t, _ => by simp [tlo]
 | [], _ :: _, k, t, h => by simp at h
 | _ :: _, [], k, t, h => by simp at h
 | k0 :: ks, t0 :: ts, k, t, h => by
  rw [List.cons_append, List.cons_append, tlo, tlo, tlo_snoc ks ts k t (by simpa using h)]
  omega
theorem txtO_tlo : ∀ (ks : List ByteArray) (ts : List FT), ks.length = ts.length → ts ≠ [] → (txtO ks ts).length + 1 = tlo ks ts
 | [], [], _, h => absurd rfl h
 | [], _ :: _, h, _ => by simp at h
 | _ :: _, [], h, _ => by simp at h
 | k :: ks, [t], h, _ => by
  rw [txtO_one, tlo]
  have e : ks = [] := by simpa using h
  simp only [List.length_cons, List.length_append, bytesOf_length, e, tlo]
  omega
 | k :: ks, t :: t2 :: ts, h, _ => by
  have ih := txtO_tlo ks (t2 :: ts) (by simpa using h) (by simp)
  rw [txtO_cons _ _ _ _ (by simp), tlo]
  simp only [List.length_cons, List.length_append, bytesOf_length] at ih ⊢
  omega
def FitsO (s : ByteArray) (ks : List ByteArray) (ts : List FT) : Res → Rd → Prop
 | none, q => no q
 | some x, q => ∃ ks' ts', x.1 = .mk 1 ByteArray.empty ks' ts' ∧ q = yes x.1 x.2 ∧ x.2.size < s.size ∧ tlo ks' ts' + x.2.size ≤ tlo ks ts + s.size ∧ ts' ≠ [] ∧ ks'.length = ts'.length
/-- No name begins here. -/
def NoName (x : ByteArray) : Prop := ∃ K, ∀ k, K ≤ k → spec_fjName.f k x = some ((⟨#[]⟩ : ByteArray), (⟨#[]⟩ : ByteArray), false)
theorem noname1 {x : ByteArray} (h : x.size = 0 ∨ bt x 0 ≠ 34) : NoName x := by
 refine ⟨1, fun k hk => ?_⟩
 obtain ⟨j, rfl⟩ : ∃ j, k = j + 1 := ⟨k - 1, by omega⟩
 unfold spec_fjName.f
 by_cases h0 : x.size = 0
 ·rw [if_pos ((toList_nil x).2 h0), spec_fjName.j0, if_pos rfl]
 have h1 : (bt x 0 != 34) = true := bne_iff_ne.2 (by rcases h with h | h; exact absurd h h0; exact h)
 rw [if_neg (fun e => h0 ((toList_nil x).1 e)), if_pos (by omega), h1, spec_fjName.j0, if_pos rfl]
theorem name_go {x : ByteArray} (h0 : 0 < x.size) (h : bt x 0 = 34) (j : Nat) : spec_fjName.f (j + 1) x = (spec_Closing.f j (x.extract 1 x.size)).bind fun t102 => (if t102 < 0 then (some ((⟨#[]⟩ : ByteArray), (⟨#[]⟩ : ByteArray), false)) else (if 0 ≤ (wrap64 (t102 + 2)) then (if (wrap64 (t102 + 2)) ≤ (x.size : Int) then ((spec_skipped.f j (x.extract ((wrap64 (t102 + 2)) : Int).toNat x.size)).bind fun t103 => (if t103.toList = ([] : List UInt8) then (some ((⟨#[]⟩ : ByteArray), (⟨#[]⟩ : ByteArray), false)) else (if 0 < (t103.size : Int) then (if (bt t103 0) = 58 then (if 1 ≤ (wrap64 (t102 + 1)) then (if (wrap64 (t102 + 1)) ≤ (x.size : Int) then (if 1 ≤ (t103.size : Int) then ((spec_skipped.f j (t103.extract 1 t103.size)).bind fun t104 => (some (x.extract 1 ((wrap64 (t102 + 1)) : Int).toNat, t104, true))) else (none)) else (none)) else (none)) else (some ((⟨#[]⟩ : ByteArray), (⟨#[]⟩ : ByteArray), false))) else (none)))) else (none)) else (none))) := by
 have h1 : (bt x 0 != 34) = false := bne_eq_false_iff_eq.2 h
 unfold spec_fjName.f
 rw [if_neg (fun e => by have := (toList_nil x).1 e; omega), if_pos (by omega), h1, spec_fjName.j0, if_neg (by decide), if_pos (by omega)]
theorem noname2 {x : ByteArray} (hs : x.size ≤ 4000) (h0 : 0 < x.size) (h : bt x 0 = 34) (hc : clos false (bytesOf (x.extract 1 x.size)) = none) : NoName x := by
 obtain ⟨K, hK⟩ := clos_ev (s := x.extract 1 x.size) (by rw [suf_size]; omega)
 rw [hc] at hK
 refine ⟨K + 1, fun k hk => ?_⟩
 obtain ⟨j, rfl⟩ : ∃ j, k = j + 1 := ⟨k - 1, by omega⟩
 simp only at hK
 rw [name_go h0 h, hK j (by omega), Option.bind_some, if_pos (by decide)]
theorem name3 {x : ByteArray} {c : Nat} (hs : x.size ≤ 4000) (h0 : 0 < x.size) (h : bt x 0 = 34) (hc : clos false (bytesOf (x.extract 1 x.size)) = some c) : ∃ K, ∀ j, K ≤ j → spec_fjName.f (j + 1) x = (if (skip (x.extract (c + 2) x.size)).toList = ([] : List UInt8) then (some ((⟨#[]⟩ : ByteArray), (⟨#[]⟩ : ByteArray), false)) else (if 0 < ((skip (x.extract (c + 2) x.size)).size : Int) then (if (bt (skip (x.extract (c + 2) x.size)) 0) = 58 then (some (x.extract 1 (c + 1), skip ((skip (x.extract (c + 2) x.size)).extract 1 (skip (x.extract (c + 2) x.size)).size), true)) else (some ((⟨#[]⟩ : ByteArray), (⟨#[]⟩ : ByteArray), false))) else (none))) := by
 have hl := clos_lt hc
 rw [bytesOf_length, suf_size] at hl
 obtain ⟨K, hK⟩ := clos_ev (s := x.extract 1 x.size) (by rw [suf_size]; omega)
 rw [hc] at hK
 obtain ⟨K1, hK1⟩ := skipped (x.extract (c + 2) x.size)
 obtain ⟨K2, hK2⟩ := skipped ((skip (x.extract (c + 2) x.size)).extract 1 (skip (x.extract (c + 2) x.size)).size)
 simp only at hK hK1 hK2
 have w1 : wrap64 ((c : Int) + 1) = ((c + 1 : Nat) : Int) := by rw [wr (by omega) (by omega)]; omega
 have w2 : wrap64 ((c : Int) + 2) = ((c + 2 : Nat) : Int) := by rw [wr (by omega) (by omega)]; omega
 refine ⟨K + K1 + K2, fun j hj => ?_⟩
 rw [name_go h0 h, hK j (by omega), Option.bind_some]
 rw [show toI (some c) = (c : Int) from rfl, if_neg (show ¬ (c : Int) < 0 by omega), w2, if_pos (by omega), if_pos (by omega), Int.toNat_natCast, hK1 j (by omega), Option.bind_some, w1]
 by_cases e0 : (skip (x.extract (c + 2) x.size)).toList = ([] : List UInt8)
 ·rw [if_pos e0, if_pos e0]
 have e1 : ¬ (skip (x.extract (c + 2) x.size)).size = 0 := fun e => e0 ((toList_nil _).2 e)
 have e3 : 0 < ((skip (x.extract (c + 2) x.size)).size : Int) := by omega
 rw [if_neg e0, if_neg e0, if_pos e3, if_pos e3]
 by_cases e2 : bt (skip (x.extract (c + 2) x.size)) 0 = 58
 ·rw [if_pos e2, if_pos e2, if_pos (by omega), if_pos (by omega), if_pos (by omega), hK2 j (by omega), Option.bind_some, Int.toNat_natCast]
 rw [if_neg e2, if_neg e2]
theorem noname_l0 {x : ByteArray} (h : NoName x) (d : Int) (ks : List ByteArray) (vs : List S30) : ∃ K, ∀ k, K ≤ k → spec_fjList.l0 k x d 125 6 (⟨#[]⟩ : ByteArray) ks false vs = some ((0 : Int), (⟨#[]⟩ : ByteArray), ([] : List ByteArray), false, ([] : List S30), (⟨#[]⟩ : ByteArray), false) := by
 obtain ⟨K, hK⟩ := h
 refine ⟨K + 1, fun k hk => ?_⟩
 obtain ⟨j, rfl⟩ : ∃ j, k = j + 1 := ⟨k - 1, by omega⟩
 rw [spec_fjList.l0, if_pos rfl, hK j (by omega), Option.bind_some, if_neg (by decide)]
set_option maxHeartbeats 4000000 in
theorem obj_agree (N : Nat) (hN : N ≤ 4001) (IH : ∀ s d, s.size < N → 0 ≤ d → d ≤ 300 → AG s d) : ∀ (m : Nat) (s : ByteArray) (d : Int) (ks : List ByteArray) (ts : List FT), s.size ≤ m → s.size < N → 0 ≤ d → d < 300 → ts.length + s.size ≤ 4000 → ks.length = ts.length →
  ∃ (R : Res) (q : Rd), Ev (fun k => pOl k s (d + 1) ks ts) R ∧ Ev (fun k => spec_fjList.l0 k (skip s) d 125 6 (⟨#[]⟩ : ByteArray) ks false (convs ts)) q ∧ FitsO s ks ts R q
 | m, s, d, ks, ts, hm, hsN, hd0, hd1, hlen, hkl => by
  have hx := skip_size s
  obtain ⟨K0, h0⟩ := sk_ev (s := s) (by omega)
  simp only at h0
  have bad : NoName (skip s) → (∃ K, ∀ k, K ≤ k → pOl k s (d + 1) ks ts = some none) → ∃ (R : Res) (q : Rd), Ev (fun k => pOl k s (d + 1) ks ts) R ∧ Ev (fun k => spec_fjList.l0 k (skip s) d 125 6 (⟨#[]⟩ : ByteArray) ks false (convs ts)) q ∧ FitsO s ks ts R q := fun hn hp =>
   ⟨none, _, hp, noname_l0 hn d ks (convs ts), (rfl : no ((0 : Int), (⟨#[]⟩ : ByteArray), ([] : List ByteArray), false, ([] : List S30), (⟨#[]⟩ : ByteArray), false))⟩
  by_cases x0 : (skip s).size = 0
  ·refine bad (noname1 (.inl x0)) ⟨K0 + 1, fun k hk => ?_⟩
   obtain ⟨j, rfl⟩ : ∃ j, k = j + 1 := ⟨k - 1, by omega⟩
   rw [pOl, h0 j (by omega), Option.bind_some, if_pos x0]
  by_cases x1 : bt (skip s) 0 = 34
  rotate_left
  ·refine bad (noname1 (.inr x1)) ⟨K0 + 1, fun k hk => ?_⟩
   obtain ⟨j, rfl⟩ : ∃ j, k = j + 1 := ⟨k - 1, by omega⟩
   rw [pOl, h0 j (by omega), Option.bind_some, if_neg x0, if_neg x1]
  have hr1 : (rest (skip s) 1).size = (skip s).size - 1 := suf_size _ _
  obtain ⟨rr, ⟨K1, h1⟩, hraw⟩ := rk_ev (s := rest (skip s) 1) (by omega)
  simp only at h1
  rw [rest_eq] at hraw
  cases hc : clos false (bytesOf ((skip s).extract 1 (skip s).size)) with
  | none =>
   have hrr := (said_none (s := (skip s).extract 1 (skip s).size) (p := 0) (R := rr) (by rw [List.drop_zero]; with_reducible exact hc)).1 hraw
   refine bad (noname2 (by omega) (by omega) x1 hc) ⟨K0 + K1 + 1, fun k hk => ?_⟩
   obtain ⟨j, rfl⟩ : ∃ j, k = j + 1 := ⟨k - 1, by omega⟩
   rw [pOl, h0 j (by omega), Option.bind_some, if_neg x0, if_pos x1, h1 j (by omega), Option.bind_some, hrr, if_pos (by rfl)]
  | some c =>
   have hrr := (said_some (s := (skip s).extract 1 (skip s).size) (p := 0) (m := c) (R := rr) (by rw [List.drop_zero]; with_reducible exact hc)).1 hraw
   have hl := clos_lt hc
   rw [bytesOf_length, suf_size] at hl
   rw [Nat.zero_add, suf_suf, show 1 + (c + 1) = c + 2 by omega] at hrr
   have hnm : ((skip s).extract 1 (skip s).size).extract 0 c = (skip s).extract 1 (c + 1) := by
    apply bytesOf_inj
    rw [bytesOf_extract, suf_bytes, bytesOf_extract, List.drop_zero, List.take_drop, Nat.add_comm 1 c]
   rw [hnm] at hrr
   obtain ⟨nm, hnm2⟩ : ∃ nm, nm = (skip s).extract 1 (c + 1) := ⟨_, rfl⟩
   obtain ⟨z, hz⟩ : ∃ z, z = skip ((skip s).extract (c + 2) (skip s).size) := ⟨_, rfl⟩
   obtain ⟨K2, h2⟩ := name3 (by omega) (by omega) x1 hc
   have hnsz : nm.size = c := by rw [hnm2, mid_size (by omega)]; omega
   rw [← hz, ← hnm2] at h2
   rw [← hnm2] at hrr
   have hzs : z.size ≤ (skip s).size - (c + 2) := by
    rw [hz]
    have := skip_size ((skip s).extract (c + 2) (skip s).size)
    rw [suf_size] at this
    exact this
   obtain ⟨K3, h3⟩ := sk_ev (s := (skip s).extract (c + 2) (skip s).size) (by rw [suf_size]; omega)
   simp only at h3
   rw [← hz] at h3
   have p1 : ∀ j, K0 + K1 + K3 ≤ j → pOl (j + 1) s (d + 1) ks ts = if z.size = 0 then some none else if bt z 0 = 58 then (sk j (rest z 1)).bind fun s => (pV j s (d + 1)).bind fun q => match q with
     | none => some none
     | some x => (sk j x.2).bind fun s => if s.size = 0 then some none else if bt s 0 = 44 then pOl j (rest s 1) (d + 1) (ks ++ [nm]) (ts ++ [x.1]) else if bt s 0 = 125 then some (some (.mk 1 ByteArray.empty (ks ++ [nm]) (ts ++ [x.1]), rest s 1)) else some none
     else some none := fun j hj => by
    rw [pOl, h0 j (by omega), Option.bind_some, if_neg x0, if_pos x1, h1 j (by omega), Option.bind_some, hrr]
    simp only [Option.isSome_none, Bool.false_eq_true, if_false]
    rw [h3 j (by omega), Option.bind_some]
    rfl
   by_cases z0 : z.size = 0
   ·refine bad ⟨K2 + 1, fun k hk => ?_⟩ ⟨K0 + K1 + K3 + 1, fun k hk => ?_⟩
    ·obtain ⟨j, rfl⟩ : ∃ j, k = j + 1 := ⟨k - 1, by omega⟩
     rw [h2 j (by omega), if_pos ((toList_nil _).2 z0)]
    obtain ⟨j, rfl⟩ : ∃ j, k = j + 1 := ⟨k - 1, by omega⟩
    rw [p1 j (by omega), if_pos z0]
   have zn : ¬ z.toList = ([] : List UInt8) := fun e => z0 ((toList_nil _).1 e)
   by_cases z1 : bt z 0 = 58
   rotate_left
   ·refine bad ⟨K2 + 1, fun k hk => ?_⟩ ⟨K0 + K1 + K3 + 1, fun k hk => ?_⟩
    ·obtain ⟨j, rfl⟩ : ∃ j, k = j + 1 := ⟨k - 1, by omega⟩
     rw [h2 j (by omega), if_neg zn, if_pos (by omega), if_neg z1]
    obtain ⟨j, rfl⟩ : ∃ j, k = j + 1 := ⟨k - 1, by omega⟩
    rw [p1 j (by omega), if_neg z0, if_neg z1]
   clear bad
   obtain ⟨v, hv⟩ : ∃ v, v = skip (z.extract 1 z.size) := ⟨_, rfl⟩
   have hvs : v.size ≤ z.size - 1 := by
    rw [hv]
    have := skip_size (z.extract 1 z.size)
    rw [suf_size] at this
    exact this
   obtain ⟨K4, h4⟩ := sk_ev (s := rest z 1) (by rw [rest_eq, suf_size]; omega)
   simp only at h4
   rw [rest_eq, ← hv] at h4
   obtain ⟨Rv, qv, ⟨K5, h5⟩, ⟨K6, h6⟩, hF⟩ := IH v (d + 1) (by omega) (by omega) (by omega)
   have hw : wrap64 (d + 1) = d + 1 := wr (by omega) (by omega)
   obtain ⟨K7, h7⟩ := skipped qv.2.2.2.2.2.1
   simp only at h5 h6 h7
   have hcl : (convs ts).length < 1759218604441 := by rw [convs_length]; omega
   have hkn : ks.length < 8796093022208 := by omega
   have s1 : ∀ j, K2 ≤ j → spec_fjList.l0 (j + 2) (skip s) d 125 6 (⟨#[]⟩ : ByteArray) ks false (convs ts) = spec_fjList.j3 (j + 1) v d 125 6 (⟨#[]⟩ : ByteArray) (ks ++ [nm]) false (convs ts) := fun j hj => by
    rw [spec_fjList.l0, if_pos rfl, h2 j hj, if_neg zn, if_pos (by omega), if_pos z1, Option.bind_some, if_pos rfl, if_pos hkn, ← hv]
   cases Rv with
   | none =>
    refine ⟨none, _, ⟨K0 + K1 + K3 + K4 + K5 + 1, fun k hk => ?_⟩, ⟨K2 + K6 + K7 + 3, fun k hk => ?_⟩, (rfl : no ((0 : Int), (⟨#[]⟩ : ByteArray), ([] : List ByteArray), false, ([] : List S30), (⟨#[]⟩ : ByteArray), false))⟩
    ·obtain ⟨j, rfl⟩ : ∃ j, k = j + 1 := ⟨k - 1, by omega⟩
     simp only
     rw [p1 j (by omega), if_neg z0, if_pos z1, rest_eq, h4 j (by omega), Option.bind_some, h5 j (by omega), Option.bind_some]
    obtain ⟨j, rfl⟩ : ∃ j, k = (j + 1) + 2 := ⟨k - 3, by omega⟩
    have hq : ¬ qv.2.2.2.2.2.2 = true := by rw [show qv.2.2.2.2.2.2 = false from hF]; decide
    simp only
    rw [s1 (j + 1) (by omega), spec_fjList.j3, hw, h6 (j + 1) (by omega), Option.bind_some, h7 (j + 1) (by omega), Option.bind_some, if_neg hq, spec_fjList.j4, if_pos rfl]
   | some x =>
    obtain ⟨t, r⟩ := x
    obtain ⟨hq, hr, hl2⟩ := hF
    rw [hq] at h6 h7
    change ∀ k, K7 ≤ k → spec_skipped.f k r = some (skip r) at h7
    have hy := skip_size r
    simp only at hr hl2
    obtain ⟨K8, h8⟩ := sk_ev (s := r) (by omega)
    simp only at h8
    have pk : ∀ j, K0 + K1 + K3 + K4 + K5 + K8 ≤ j → pOl (j + 1) s (d + 1) ks ts = if (skip r).size = 0 then some none else if bt (skip r) 0 = 44 then pOl j (rest (skip r) 1) (d + 1) (ks ++ [nm]) (ts ++ [t]) else if bt (skip r) 0 = 125 then some (some (.mk 1 ByteArray.empty (ks ++ [nm]) (ts ++ [t]), rest (skip r) 1)) else some none := fun j hj => by
     rw [p1 j (by omega), if_neg z0, if_pos z1, rest_eq, h4 j (by omega), Option.bind_some, h5 j (by omega), Option.bind_some]
     show (sk j r).bind _ = _
     rw [h8 j (by omega), Option.bind_some]
    have sp : ∀ j, K2 + K6 + K7 ≤ j → spec_fjList.l0 (j + 2) (skip s) d 125 6 (⟨#[]⟩ : ByteArray) ks false (convs ts) = if (skip r).toList = ([] : List UInt8) then spec_fjList.j4 j (skip r) d 125 true 6 (⟨#[]⟩ : ByteArray) (ks ++ [nm]) false (convs ts) (conv t).f0 (conv t).f1 (conv t).f2 (conv t).f3 (conv t).f4 else (if 0 < ((skip r).size : Int) then (if (bt (skip r) 0) = 44 then (spec_fjList.j4 j (skip r) d 125 false 6 (⟨#[]⟩ : ByteArray) (ks ++ [nm]) false (convs ts) (conv t).f0 (conv t).f1 (conv t).f2 (conv t).f3 (conv t).f4) else (spec_fjList.j4 j (skip r) d 125 ((bt (skip r) 0) != 125) 6 (⟨#[]⟩ : ByteArray) (ks ++ [nm]) false (convs ts) (conv t).f0 (conv t).f1 (conv t).f2 (conv t).f3 (conv t).f4)) else (none)) := fun j hj => by
     rw [s1 j (by omega), spec_fjList.j3, hw, h6 j (by omega), Option.bind_some]
     show (spec_skipped.f j r).bind _ = _
     rw [h7 j (by omega), Option.bind_some]
     show (if true = true then _ else _) = _
     rw [if_pos rfl]
     rfl
    have hko : convs ts ++ [(⟨(conv t).f0, (conv t).f1, (conv t).f2, (conv t).f3, (conv t).f4⟩ : S30)] = convs (ts ++ [t]) := by
     rw [convs_append, convs, convs]
     generalize conv t = c
     cases c
     rfl
    by_cases y0 : (skip r).size = 0
    ·refine ⟨none, _, ⟨K0 + K1 + K3 + K4 + K5 + K8 + 1, fun k hk => ?_⟩, ⟨K2 + K6 + K7 + 3, fun k hk => ?_⟩, (rfl : no ((0 : Int), (⟨#[]⟩ : ByteArray), ([] : List ByteArray), false, ([] : List S30), (⟨#[]⟩ : ByteArray), false))⟩
     ·obtain ⟨j, rfl⟩ : ∃ j, k = j + 1 := ⟨k - 1, by omega⟩
      simp only
      rw [pk j (by omega), if_pos y0]
     obtain ⟨j, rfl⟩ : ∃ j, k = (j + 1) + 2 := ⟨k - 3, by omega⟩
     simp only
     rw [sp (j + 1) (by omega), if_pos ((toList_nil _).2 y0), spec_fjList.j4, if_pos rfl]
    have yn : ¬ (skip r).toList = ([] : List UInt8) := fun e => y0 ((toList_nil _).1 e)
    have hrs : (rest (skip r) 1).size = (skip r).size - 1 := suf_size _ _
    have hkl1 : (ks ++ [nm]).length = (ts ++ [t]).length := by simp [hkl]
    by_cases y1 : bt (skip r) 0 = 44
    ·have y93 : ¬ bt (skip r) 0 = 125 := by omega
     cases m with
     | zero => omega
     | succ m =>
     obtain ⟨R, q, ⟨Ka, ha⟩, ⟨Kb, hb⟩, hq2⟩ := obj_agree N hN IH m (rest (skip r) 1) d (ks ++ [nm]) (ts ++ [t]) (by omega) (by omega) hd0 hd1 (by rw [List.length_append, List.length_singleton]; omega) hkl1
     obtain ⟨Kc, hc9⟩ := skipped ((skip r).extract 1 (skip r).size)
     simp only at ha hb hc9
     rw [rest_eq] at hb
     refine ⟨R, q, ⟨K0 + K1 + K3 + K4 + K5 + K8 + Ka + 1, fun k hk => ?_⟩, ⟨K2 + K6 + K7 + Kb + Kc + 4, fun k hk => ?_⟩, ?_⟩
     ·obtain ⟨j, rfl⟩ : ∃ j, k = j + 1 := ⟨k - 1, by omega⟩
      simp only
      rw [pk j (by omega), if_neg y0, if_pos y1, ha j (by omega)]
     ·obtain ⟨j, rfl⟩ : ∃ j, k = (j + 1) + 2 := ⟨k - 3, by omega⟩
      simp only
      rw [sp (j + 1) (by omega), if_neg yn, if_pos (by omega), if_pos y1, spec_fjList.j4, if_neg (by decide), if_pos hcl, Option.bind_some, if_pos (by omega), if_neg y93, if_pos (by omega), hc9 j (by omega), Option.bind_some, hko]
      with_reducible exact hb j (by omega)
     cases R with
     | none =>
      have hq3 : no q := hq2
      exact hq3
     | some zz =>
      obtain ⟨ks', ts', e1, e2, e3, e4, e5, e6⟩ := hq2
      refine ⟨ks', ts', e1, e2, by omega, ?_, e5, e6⟩
      rw [tlo_snoc _ _ _ _ hkl] at e4
      omega
    by_cases y2 : bt (skip r) 0 = 125
    ·refine ⟨some (.mk 1 ByteArray.empty (ks ++ [nm]) (ts ++ [t]), rest (skip r) 1), _, ⟨K0 + K1 + K3 + K4 + K5 + K8 + 1, fun k hk => ?_⟩, ⟨K2 + K6 + K7 + 3, fun k hk => ?_⟩, ks ++ [nm], ts ++ [t], rfl, rfl, ?_, ?_, by simp, hkl1⟩
     ·obtain ⟨j, rfl⟩ : ∃ j, k = j + 1 := ⟨k - 1, by omega⟩
      simp only
      rw [pk j (by omega), if_neg y0, if_neg y1, if_pos y2]
     ·obtain ⟨j, rfl⟩ : ∃ j, k = (j + 1) + 2 := ⟨k - 3, by omega⟩
      simp only
      rw [sp (j + 1) (by omega), if_neg yn, if_pos (by omega), if_neg y1, y2, spec_fjList.j4, if_neg (by decide), if_pos hcl, Option.bind_some, if_pos (by omega), if_pos y2, if_pos (by omega), hko]
      rfl
     ·show (rest (skip r) 1).size < s.size
      omega
     show tlo (ks ++ [nm]) (ts ++ [t]) + (rest (skip r) 1).size ≤ tlo ks ts + s.size
     rw [tlo_snoc _ _ _ _ hkl]
     omega
    have yb : (bt (skip r) 0 != 125) = true := bne_iff_ne.2 y2
    refine ⟨none, _, ⟨K0 + K1 + K3 + K4 + K5 + K8 + 1, fun k hk => ?_⟩, ⟨K2 + K6 + K7 + 3, fun k hk => ?_⟩, (rfl : no ((0 : Int), (⟨#[]⟩ : ByteArray), ([] : List ByteArray), false, ([] : List S30), (⟨#[]⟩ : ByteArray), false))⟩
    ·obtain ⟨j, rfl⟩ : ∃ j, k = j + 1 := ⟨k - 1, by omega⟩
     simp only
     rw [pk j (by omega), if_neg y0, if_neg y1, if_neg y2]
    obtain ⟨j, rfl⟩ : ∃ j, k = (j + 1) + 2 := ⟨k - 3, by omega⟩
    simp only
    rw [sp (j + 1) (by omega), if_neg yn, if_pos (by omega), if_neg y1, yb, spec_fjList.j4, if_pos rfl]
/-! ### a value -/
theorem begin_go {s : ByteArray} {d : Int} (h0 : 0 < s.size) (hd : d < 300) (k : Nat) : spec_BeginFj.f (k + 2) s d = spec_BeginFj.j1 k s d (bt s 0) (decide (bt s 0 = 123 ∨ bt s 0 = 91)) := by
 rw [spec_BeginFj.f, if_neg (fun e => by have := (toList_nil s).1 e; omega), decide_eq_false (by omega), spec_BeginFj.j0, if_neg (by decide), if_pos (by omega)]
 by_cases h1 : bt s 0 = 123
 ·rw [if_pos h1, decide_eq_true (Or.inl h1), beq_iff_eq.2 h1]
 rw [if_neg h1]
 by_cases h2 : bt s 0 = 91
 ·rw [decide_eq_true (Or.inr h2), beq_iff_eq.2 h2]
 rw [decide_eq_false (fun h => h.elim h1 h2), beq_eq_false_iff_ne.2 h2]
theorem begin_no {s : ByteArray} {d : Int} (h : s.size = 0 ∨ 300 ≤ d) (k : Nat) : spec_BeginFj.f (k + 2) s d = some ((0 : Int), (⟨#[]⟩ : ByteArray), ([] : List ByteArray), false, ([] : List S30), (⟨#[]⟩ : ByteArray), false) := by
 rw [spec_BeginFj.f]
 by_cases h0 : s.size = 0
 ·rw [if_pos ((toList_nil s).2 h0), spec_BeginFj.j0, if_pos rfl]
 rw [if_neg (fun e => h0 ((toList_nil s).1 e)), decide_eq_true (by rcases h with h | h; exact absurd h h0; omega), spec_BeginFj.j0, if_pos rfl]
theorem begin_list {s : ByteArray} {d : Int} (h0 : 0 < s.size) (hd : d < 300) (hc : bt s 0 = 123 ∨ bt s 0 = 91) (k : Nat) : spec_BeginFj.f (k + 3) s d = spec_fjList.f k s d := by
 rw [begin_go h0 hd, decide_eq_true hc, spec_BeginFj.j1, if_pos rfl]
 cases spec_fjList.f k s d <;> rfl
theorem list_go {s u : ByteArray} {d x8 kind : Int} (h0 : 0 < s.size) (hu : u = skip (s.extract 1 s.size)) (hc : (bt s 0 = 123 ∧ x8 = 125 ∧ kind = 6) ∨ (bt s 0 = 91 ∧ x8 = 93 ∧ kind = 5)) : ∃ K, ∀ k, K ≤ k → spec_fjList.f (k + 3) s d = if u.size = 0 ∨ bt u 0 ≠ x8 then spec_fjList.l0 k u d x8 kind (⟨#[]⟩ : ByteArray) [] false [] else some (kind, (⟨#[]⟩ : ByteArray), [], false, [], u.extract 1 u.size, true) := by
 obtain ⟨K, hK⟩ := skipped (s.extract 1 s.size)
 simp only at hK
 rw [← hu] at hK
 refine ⟨K, fun k hk => ?_⟩
 have e : spec_fjList.f (k + 3) s d = spec_fjList.j0 (k + 2) s d x8 kind (⟨#[]⟩ : ByteArray) false := by
  rw [spec_fjList.f, if_pos (by omega)]
  rcases hc with ⟨a, b, c⟩ | ⟨a, b, c⟩
  ·rw [if_pos a, a, b, c]; rfl
  rw [if_neg (by omega), a, b, c]; rfl
 rw [e, spec_fjList.j0, if_pos (by omega), hK (k + 1) (by omega), Option.bind_some]
 by_cases u0 : u.size = 0
 ·rw [if_pos ((toList_nil u).2 u0), spec_fjList.j1, if_neg (by decide), if_pos (Or.inl u0)]
 rw [if_neg (fun e => u0 ((toList_nil u).1 e)), if_pos (by omega), spec_fjList.j1]
 by_cases u1 : bt u 0 = x8
 ·rw [beq_iff_eq.2 u1, if_pos rfl, if_pos (by omega), if_neg (fun h => h.elim u0 (fun h => h u1))]
 rw [beq_eq_false_iff_ne.2 u1, if_neg (by decide), if_pos (Or.inr u1)]
/-- A word that a text begins with. -/
def has (s : ByteArray) (w : List UInt8) : Prop := w.length ≤ s.size ∧ (s.extract 0 w.length).toList = w
theorem word_has {s : ByteArray} {w : List UInt8} {n : Int} {o : Option Res} : (has s w → word s w n o = some (some (lit n ByteArray.empty, rest s w.length))) ∧ (¬ has s w → word s w n o = o) := by
 unfold word has
 constructor
 ·rintro ⟨h1, h2⟩
  rw [if_neg (by omega), if_pos h2]
 intro h
 by_cases h1 : (s.size : Int) < w.length
 ·rw [if_pos h1]
 rw [if_neg h1, if_neg (fun h2 => h ⟨by omega, h2⟩)]
abbrev words3 : List ByteArray := [(⟨#[110, 117, 108, 108]⟩ : ByteArray), (⟨#[102, 97, 108, 115, 101]⟩ : ByteArray), (⟨#[116, 114, 117, 101]⟩ : ByteArray)]
theorem word_l0 {s b : ByteArray} {w : List UInt8} {j : Int} (hj0 : 0 ≤ j) (hj3 : j < 3) (hb : rdOf ByteArray.empty words3 j = b) (hl : b.toList = w) (hz : b.size = w.length) (k : Nat) :
  (has s w → spec_BeginFj.l0 (k + 1) s words3 3 j = some (j, (⟨#[]⟩ : ByteArray), [], false, [], s.extract w.length s.size, true)) ∧ (¬ has s w → spec_BeginFj.l0 (k + 1) s words3 3 j = spec_BeginFj.l0 k s words3 3 (j + 1)) := by
 have hw : wrap64 (j + 1) = j + 1 := wr (by omega) (by omega)
 have h3 : ((words3.length : Nat) : Int) = 3 := rfl
 constructor
 ·rintro ⟨h1, h2⟩
  rw [spec_BeginFj.l0, if_pos hj3, if_pos hj0, h3, if_pos hj3, hb, hz, if_pos (by omega), if_pos (by omega), if_pos (by omega), Int.toNat_natCast, hl, if_pos h2]
 intro h
 rw [spec_BeginFj.l0, if_pos hj3, if_pos hj0, h3, if_pos hj3, hb, hz, hw]
 by_cases h1 : (s.size : Int) ≥ (w.length : Int)
 ·rw [if_pos h1, if_pos (by omega), if_pos (by omega), Int.toNat_natCast, hl, if_neg (fun h2 => h ⟨by omega, h2⟩)]
 rw [if_neg h1]
theorem lit_list (a : Array UInt8) : (⟨a⟩ : ByteArray).toList = a.toList := Go.ByteArray.toList_eq _
theorem has_first {s : ByteArray} {c : UInt8} {w : List UInt8} (h : has s (c :: w)) : bt s 0 = (c.toNat : Int) := by
 obtain ⟨h1, h2⟩ := h
 have h0 : 0 < s.size := by simp at h1; omega
 rw [Go.ByteArray.toList_eq] at h2
 have e := bytesOf_extract s 0 (c :: w).length
 rw [List.drop_zero] at e
 unfold bytesOf at e
 rw [h2] at e
 have e2 := congrArg (fun l => l.getD 0 0) e
 simp only [List.map_cons, List.getD_cons_zero] at e2
 have e3 := bt_nat s 0
 unfold bytesOf at e3
 rw [List.getD_eq_getElem?_getD] at e3
 rw [List.getD_eq_getElem?_getD, List.getElem?_take_of_lt (by simp)] at e2
 exact e3.trans e2.symm
def wN : List UInt8 := [110, 117, 108, 108]
def wF : List UInt8 := [102, 97, 108, 115, 101]
def wT : List UInt8 := [116, 114, 117, 101]
theorem word_N {s : ByteArray} (k : Nat) : (has s wN → spec_BeginFj.l0 (k + 1) s words3 3 0 = some (0, (⟨#[]⟩ : ByteArray), [], false, [], s.extract wN.length s.size, true)) ∧ (¬ has s wN → spec_BeginFj.l0 (k + 1) s words3 3 0 = spec_BeginFj.l0 k s words3 3 1) := word_l0 (s := s) (b := ⟨#[110, 117, 108, 108]⟩) (w := wN) (j := 0) (by decide) (by decide) rfl (lit_list _) rfl k
theorem word_F {s : ByteArray} (k : Nat) : (has s wF → spec_BeginFj.l0 (k + 1) s words3 3 1 = some (1, (⟨#[]⟩ : ByteArray), [], false, [], s.extract wF.length s.size, true)) ∧ (¬ has s wF → spec_BeginFj.l0 (k + 1) s words3 3 1 = spec_BeginFj.l0 k s words3 3 2) := word_l0 (s := s) (b := ⟨#[102, 97, 108, 115, 101]⟩) (w := wF) (j := 1) (by decide) (by decide) rfl (lit_list _) rfl k
theorem word_T {s : ByteArray} (k : Nat) : (has s wT → spec_BeginFj.l0 (k + 1) s words3 3 2 = some (2, (⟨#[]⟩ : ByteArray), [], false, [], s.extract wT.length s.size, true)) ∧ (¬ has s wT → spec_BeginFj.l0 (k + 1) s words3 3 2 = spec_BeginFj.l0 k s words3 3 3) := word_l0 (s := s) (b := ⟨#[116, 114, 117, 101]⟩) (w := wT) (j := 2) (by decide) (by decide) rfl (lit_list _) rfl k
theorem num_l0 {s : ByteArray} (hs : s.size ≤ 4000) : ∃ K, ∀ k, K ≤ k → spec_BeginFj.l0 (k + 1) s words3 3 3 = some (3, s.extract 0 (num s), [], false, [], s.extract (num s) s.size, decide (num s > 0)) := by
 obtain ⟨K, hK⟩ := fjnum_ev hs
 simp only at hK
 have hle := num_le s
 refine ⟨K, fun k hk => ?_⟩
 rw [spec_BeginFj.l0, if_neg (by decide), hK k hk, Option.bind_some, if_pos (by omega), if_pos (by omega), Int.toNat_natCast]
 have e : decide (((num s : Nat) : Int) > 0) = decide (num s > 0) := by
  by_cases h : num s > 0
  ·rw [decide_eq_true h, decide_eq_true (by omega)]
  rw [decide_eq_false h, decide_eq_false (by omega)]
 rw [e]
theorem begin_word {s : ByteArray} {d : Int} (h0 : 0 < s.size) (hd : d < 300) (hc : ¬ (bt s 0 = 123 ∨ bt s 0 = 91)) (h34 : bt s 0 ≠ 34) (k : Nat) : spec_BeginFj.f (k + 3) s d = spec_BeginFj.l0 k s words3 3 0 := by
 rw [begin_go h0 hd, decide_eq_false hc, spec_BeginFj.j1, if_neg (by decide), if_neg h34]
 rfl
theorem num_low {s : ByteArray} (h0 : 0 < s.size) (h : bt s 0 = 116 ∨ bt s 0 = 102) : num s = 0 := by
 have hn : nl (bytesOf s) = 0 := by
  rw [bt_cons h0, nl, if_neg]
  unfold nch; omega
 have hl : lets s := .inl hn
 unfold num
 simp only
 rw [hn, if_neg (by omega), if_pos hl, if_neg]
 rintro ⟨h3, h⟩
 have e : bt (s.extract 0 (0 + 3)) 0 = bt s 0 := by
  have e1 := bt_nat (s.extract 0 (0 + 3)) 0
  have e2 := bt_nat s 0
  rw [bytesOf_extract, List.drop_zero, List.getD_eq_getElem?_getD, List.getElem?_take_of_lt (by omega)] at e1
  rw [List.getD_eq_getElem?_getD] at e2
  exact e1.trans e2.symm
 unfold inf3 nan3 f3 low at h
 rw [e] at h
 split at h <;> omega
theorem num_n {s : ByteArray} (h0 : 0 < s.size) (h : bt s 0 = 110) : num s = if 3 ≤ s.size ∧ nan3 (s.extract 0 3) then 3 else 0 := by
 have hn : nl (bytesOf s) = 0 := by
  rw [bt_cons h0, nl, if_neg]
  unfold nch; omega
 have hl : lets s := .inl hn
 have e : ∀ h3 : 3 ≤ s.size, bt (s.extract 0 3) 0 = bt s 0 := fun h3 => by
  have e1 := bt_nat (s.extract 0 3) 0
  have e2 := bt_nat s 0
  rw [bytesOf_extract, List.drop_zero, List.getD_eq_getElem?_getD, List.getElem?_take_of_lt (by omega)] at e1
  rw [List.getD_eq_getElem?_getD] at e2
  exact e1.trans e2.symm
 unfold num
 simp only
 rw [hn, if_neg (by omega), if_pos hl, Nat.zero_add]
 by_cases h3 : 3 ≤ s.size
 ·have hi : ¬ inf3 (s.extract 0 3) := by
   rintro ⟨q, _⟩
   unfold low at q
   rw [e h3, h] at q
   revert q
   decide
  by_cases ha : nan3 (s.extract 0 3)
  ·rw [if_pos (show 3 ≤ s.size ∧ (inf3 (s.extract 0 3) ∨ nan3 (s.extract 0 3)) from ⟨h3, .inr ha⟩), if_pos (show 3 ≤ s.size ∧ nan3 (s.extract 0 3) from ⟨h3, ha⟩)]
  rw [if_neg (show ¬ (3 ≤ s.size ∧ (inf3 (s.extract 0 3) ∨ nan3 (s.extract 0 3))) from fun q => q.2.elim hi ha), if_neg (show ¬ (3 ≤ s.size ∧ nan3 (s.extract 0 3)) from fun q => ha q.2)]
 rw [if_neg (show ¬ (3 ≤ s.size ∧ (inf3 (s.extract 0 3) ∨ nan3 (s.extract 0 3))) from fun q => h3 q.1), if_neg (show ¬ (3 ≤ s.size ∧ nan3 (s.extract 0 3)) from fun q => h3 q.1)]
set_option maxHeartbeats 4000000 in
theorem agree : ∀ (n : Nat), n ≤ 4001 → ∀ (s : ByteArray) (d : Int), s.size < n → 0 ≤ d → d ≤ 300 → AG s d
 | 0, _, s, d, hs, _, _ => absurd hs (Nat.not_lt_zero _)
 | n + 1, hn, s, d, hs, hd0, hd1 => by
  have IH := agree n (by omega)
  by_cases hbad : s.size = 0 ∨ 300 ≤ d
  ·refine ⟨none, _, ⟨1, fun k hk => ?_⟩, ⟨2, fun k hk => ?_⟩, (rfl : no ((0 : Int), (⟨#[]⟩ : ByteArray), ([] : List ByteArray), false, ([] : List S30), (⟨#[]⟩ : ByteArray), false))⟩
   ·obtain ⟨j, rfl⟩ : ∃ j, k = j + 1 := ⟨k - 1, by omega⟩
    simp only
    rw [pV]
    by_cases h0 : s.size = 0
    ·rw [if_pos h0]
    rw [if_neg h0, if_pos (by rcases hbad with h | h; exact absurd h h0; omega)]
   obtain ⟨j, rfl⟩ : ∃ j, k = j + 2 := ⟨k - 2, by omega⟩
   exact begin_no hbad j
  have h0 : 0 < s.size := by omega
  have hd : d < 300 := by omega
  clear hbad
  obtain ⟨u, hu⟩ : ∃ u, u = skip (s.extract 1 s.size) := ⟨_, rfl⟩
  have hus : u.size ≤ s.size - 1 := by
   rw [hu]
   have := skip_size (s.extract 1 s.size)
   rw [suf_size] at this
   exact this
  obtain ⟨K1, h1⟩ := sk_ev (s := rest s 1) (by rw [rest_eq, suf_size]; omega)
  simp only at h1
  rw [rest_eq, ← hu] at h1
  rw [← rest_eq] at h1
  by_cases c1 : bt s 0 = 123
  ·have hu2 : skip u = u := by rw [hu]; exact skip_skip _
   obtain ⟨K2, h2⟩ := list_go (s := s) (u := u) (d := d) (x8 := 125) (kind := 6) h0 hu (Or.inl ⟨c1, rfl, rfl⟩)
   obtain ⟨R, q, ⟨K3, h3⟩, ⟨K4, h4⟩, hF⟩ := obj_agree n (by omega) IH u.size u d [] [] (Nat.le_refl _) (by omega) hd0 hd (by simp; omega) rfl
   simp only at h3 h4
   rw [hu2, convs] at h4
   have pq : ∀ j, K1 ≤ j → pV (j + 2) s d = if u.size = 0 then some none else if bt u 0 = 125 then some (some (FT.mk 1 ByteArray.empty [] [], rest u 1)) else pOl j u (d + 1) [] [] := fun j hj => by
    rw [pV, if_neg (by omega), if_neg (by omega), if_pos c1, pO, h1 j hj, Option.bind_some]
   have sq : ∀ j, K2 ≤ j → spec_BeginFj.f (j + 6) s d = if u.size = 0 ∨ bt u 0 ≠ 125 then spec_fjList.l0 j u d 125 6 (⟨#[]⟩ : ByteArray) [] false [] else some (6, (⟨#[]⟩ : ByteArray), [], false, [], u.extract 1 u.size, true) := fun j hj => by
    rw [begin_list h0 hd (Or.inl c1) (j + 3), h2 j hj]
   by_cases u0 : u.size = 0
   ·have hR : R = none := by
     cases R with
     | none => rfl
     | some x =>
      obtain ⟨ks', ts', _, _, e, _⟩ := hF
      omega
    rw [hR] at hF
    have hq : no q := hF
    refine ⟨none, q, ⟨K1 + 2, fun k hk => ?_⟩, ⟨K2 + K4 + 6, fun k hk => ?_⟩, hq⟩
    ·obtain ⟨j, rfl⟩ : ∃ j, k = j + 2 := ⟨k - 2, by omega⟩
     simp only
     rw [pq j (by omega), if_pos u0]
    obtain ⟨j, rfl⟩ : ∃ j, k = j + 6 := ⟨k - 6, by omega⟩
    simp only
    rw [sq j (by omega), if_pos (Or.inl u0)]
    with_reducible exact h4 j (by omega)
   by_cases u1 : bt u 0 = 125
   ·have hru : (rest u 1).size = u.size - 1 := suf_size _ _
    refine ⟨some (FT.mk 1 ByteArray.empty [] [], rest u 1), (6, (⟨#[]⟩ : ByteArray), [], false, [], u.extract 1 u.size, true), ⟨K1 + 2, fun k hk => ?_⟩, ⟨K2 + 6, fun k hk => ?_⟩, ?_, ?_, ?_⟩
    ·obtain ⟨j, rfl⟩ : ∃ j, k = j + 2 := ⟨k - 2, by omega⟩
     simp only
     rw [pq j (by omega), if_neg u0, if_pos u1]
    ·obtain ⟨j, rfl⟩ : ∃ j, k = j + 6 := ⟨k - 6, by omega⟩
     simp only
     rw [sq j (by omega), if_neg (fun h => h.elim u0 (fun h => h u1))]
    ·rfl
    ·show (rest u 1).size < s.size
     omega
    show (txt (FT.mk 1 ByteArray.empty [] [])).length + (rest u 1).size ≤ s.size
    rw [show txt (FT.mk 1 ByteArray.empty [] []) = [123, 125] by simp [txt, txtA, txtO]]
    simp only [List.length_cons, List.length_nil]
    omega
   refine ⟨R, q, ⟨K1 + K3 + 2, fun k hk => ?_⟩, ⟨K2 + K4 + 6, fun k hk => ?_⟩, ?_⟩
   ·obtain ⟨j, rfl⟩ : ∃ j, k = j + 2 := ⟨k - 2, by omega⟩
    simp only
    rw [pq j (by omega), if_neg u0, if_neg u1]
    with_reducible exact h3 j (by omega)
   ·obtain ⟨j, rfl⟩ : ∃ j, k = j + 6 := ⟨k - 6, by omega⟩
    simp only
    rw [sq j (by omega), if_pos (Or.inr u1)]
    with_reducible exact h4 j (by omega)
   cases R with
   | none =>
    have hq : no q := hF
    exact hq
   | some x =>
    obtain ⟨ks', ts', e1, e2, e3, e4, e5, e6⟩ := hF
    refine ⟨e2, by omega, ?_⟩
    rw [e1, show txt (.mk 1 ByteArray.empty ks' ts') = 123 :: (txtO ks' ts' ++ [125]) by simp [txt]]
    have := txtO_tlo ks' ts' e6 e5
    simp only [tlo] at e4
    simp only [List.length_cons, List.length_append, List.length_nil]
    omega
  by_cases c2 : bt s 0 = 91
  ·have hu2 : skip u = u := by rw [hu]; exact skip_skip _
   obtain ⟨K2, h2⟩ := list_go (s := s) (u := u) (d := d) (x8 := 93) (kind := 5) h0 hu (Or.inr ⟨c2, rfl, rfl⟩)
   obtain ⟨R, q, ⟨K3, h3⟩, ⟨K4, h4⟩, hF⟩ := arr_agree n (by omega) IH u.size u d [] (Nat.le_refl _) (by omega) hd0 hd (by simp; omega)
   simp only at h3 h4
   rw [hu2, convs] at h4
   have pq : ∀ j, K1 ≤ j → pV (j + 2) s d = if u.size = 0 then some none else if bt u 0 = 93 then some (some (FT.mk 2 ByteArray.empty [] [], rest u 1)) else pAl j u (d + 1) [] := fun j hj => by
    rw [pV, if_neg (by omega), if_neg (by omega), if_neg c1, if_pos c2, pA, h1 j hj, Option.bind_some]
   have sq : ∀ j, K2 ≤ j → spec_BeginFj.f (j + 6) s d = if u.size = 0 ∨ bt u 0 ≠ 93 then spec_fjList.l0 j u d 93 5 (⟨#[]⟩ : ByteArray) [] false [] else some (5, (⟨#[]⟩ : ByteArray), [], false, [], u.extract 1 u.size, true) := fun j hj => by
    rw [begin_list h0 hd (Or.inr c2) (j + 3), h2 j hj]
   by_cases u0 : u.size = 0
   ·have hR : R = none := by
     cases R with
     | none => rfl
     | some x =>
      obtain ⟨ts', _, _, e, _⟩ := hF
      omega
    rw [hR] at hF
    have hq : no q := hF
    refine ⟨none, q, ⟨K1 + 2, fun k hk => ?_⟩, ⟨K2 + K4 + 6, fun k hk => ?_⟩, hq⟩
    ·obtain ⟨j, rfl⟩ : ∃ j, k = j + 2 := ⟨k - 2, by omega⟩
     simp only
     rw [pq j (by omega), if_pos u0]
    obtain ⟨j, rfl⟩ : ∃ j, k = j + 6 := ⟨k - 6, by omega⟩
    simp only
    rw [sq j (by omega), if_pos (Or.inl u0)]
    with_reducible exact h4 j (by omega)
   by_cases u1 : bt u 0 = 93
   ·have hru : (rest u 1).size = u.size - 1 := suf_size _ _
    refine ⟨some (FT.mk 2 ByteArray.empty [] [], rest u 1), (5, (⟨#[]⟩ : ByteArray), [], false, [], u.extract 1 u.size, true), ⟨K1 + 2, fun k hk => ?_⟩, ⟨K2 + 6, fun k hk => ?_⟩, ?_, ?_, ?_⟩
    ·obtain ⟨j, rfl⟩ : ∃ j, k = j + 2 := ⟨k - 2, by omega⟩
     simp only
     rw [pq j (by omega), if_neg u0, if_pos u1]
    ·obtain ⟨j, rfl⟩ : ∃ j, k = j + 6 := ⟨k - 6, by omega⟩
     simp only
     rw [sq j (by omega), if_neg (fun h => h.elim u0 (fun h => h u1))]
    ·rfl
    ·show (rest u 1).size < s.size
     omega
    show (txt (FT.mk 2 ByteArray.empty [] [])).length + (rest u 1).size ≤ s.size
    rw [show txt (FT.mk 2 ByteArray.empty [] []) = [91, 93] by simp [txt, txtA, txtO]]
    simp only [List.length_cons, List.length_nil]
    omega
   refine ⟨R, q, ⟨K1 + K3 + 2, fun k hk => ?_⟩, ⟨K2 + K4 + 6, fun k hk => ?_⟩, ?_⟩
   ·obtain ⟨j, rfl⟩ : ∃ j, k = j + 2 := ⟨k - 2, by omega⟩
    simp only
    rw [pq j (by omega), if_neg u0, if_neg u1]
    with_reducible exact h3 j (by omega)
   ·obtain ⟨j, rfl⟩ : ∃ j, k = j + 6 := ⟨k - 6, by omega⟩
    simp only
    rw [sq j (by omega), if_pos (Or.inr u1)]
    with_reducible exact h4 j (by omega)
   cases R with
   | none =>
    have hq : no q := hF
    exact hq
   | some x =>
    obtain ⟨ts', e1, e2, e3, e4, e5⟩ := hF
    refine ⟨e2, by omega, ?_⟩
    rw [e1, show txt (.mk 2 ByteArray.empty [] ts') = 91 :: (txtA ts' ++ [93]) by simp [txt]]
    have := txtA_tl ts' e5
    simp only [tl] at e4
    simp only [List.length_cons, List.length_append, List.length_nil]
    omega
  have hc : ¬ (bt s 0 = 123 ∨ bt s 0 = 91) := fun h => h.elim c1 c2
  clear hu hus h1 IH
  by_cases c3 : bt s 0 = 34
  ·obtain ⟨rr, ⟨K2, h2⟩, hraw⟩ := rs_ev (s := rest s 1) (by rw [rest_eq, suf_size]; omega)
   obtain ⟨K3, h3⟩ := clos_ev (s := s.extract 1 s.size) (by rw [suf_size]; omega)
   simp only at h2 h3
   rw [rest_eq] at hraw
   have pq : ∀ j, K2 ≤ j → pV (j + 1) s d = some (leaf 7 rr) := fun j hj => by
    rw [pV, if_neg (by omega), if_neg (by omega), if_neg c1, if_neg c2, if_pos c3, h2 j hj, Option.bind_some]
   have sq : ∀ j, spec_BeginFj.f (j + 3) s d = (spec_Closing.f j (s.extract 1 s.size)).bind fun t146 => (if t146 < 0 then (some ((0 : Int), (⟨#[]⟩ : ByteArray), ([] : List ByteArray), false, ([] : List S30), (⟨#[]⟩ : ByteArray), false)) else (if 1 ≤ (wrap64 (t146 + 1)) then (if (wrap64 (t146 + 1)) ≤ (s.size : Int) then (if 0 ≤ (wrap64 (t146 + 2)) then (if (wrap64 (t146 + 2)) ≤ (s.size : Int) then (some (4, s.extract 1 ((wrap64 (t146 + 1)) : Int).toNat, ([] : List ByteArray), false, ([] : List S30), s.extract ((wrap64 (t146 + 2)) : Int).toNat s.size, true)) else (none)) else (none)) else (none)) else (none))) := fun j => by
    rw [begin_go h0 hd, decide_eq_false hc, spec_BeginFj.j1, if_neg (by decide), if_pos c3, if_pos (by omega)]
   cases hcl : clos false (bytesOf (s.extract 1 s.size)) with
   | none =>
    have hrr := (said_none (s := s.extract 1 s.size) (p := 0) (R := rr) (by rw [List.drop_zero]; with_reducible exact hcl)).1 hraw
    rw [hcl] at h3
    refine ⟨none, _, ⟨K2 + 1, fun k hk => ?_⟩, ⟨K3 + 3, fun k hk => ?_⟩, (rfl : no ((0 : Int), (⟨#[]⟩ : ByteArray), ([] : List ByteArray), false, ([] : List S30), (⟨#[]⟩ : ByteArray), false))⟩
    ·obtain ⟨j, rfl⟩ : ∃ j, k = j + 1 := ⟨k - 1, by omega⟩
     simp only
     rw [pq j (by omega)]
     unfold leaf
     rw [hrr, if_pos (by rfl)]
    obtain ⟨j, rfl⟩ : ∃ j, k = j + 3 := ⟨k - 3, by omega⟩
    simp only
    rw [sq j, h3 j (by omega), Option.bind_some, if_pos (by decide)]
   | some c =>
    have hrr := (said_some (s := s.extract 1 s.size) (p := 0) (m := c) (R := rr) (by rw [List.drop_zero]; with_reducible exact hcl)).1 hraw
    have hl := clos_lt hcl
    rw [bytesOf_length, suf_size] at hl
    rw [hcl] at h3
    rw [Nat.zero_add, suf_suf, show 1 + (c + 1) = c + 2 by omega] at hrr
    have hnm : (s.extract 1 s.size).extract 0 c = s.extract 1 (c + 1) := by
     apply bytesOf_inj
     rw [bytesOf_extract, suf_bytes, bytesOf_extract, List.drop_zero, List.take_drop, Nat.add_comm 1 c]
    rw [hnm] at hrr
    have w1 : wrap64 ((c : Int) + 1) = ((c + 1 : Nat) : Int) := by rw [wr (by omega) (by omega)]; omega
    have w2 : wrap64 ((c : Int) + 2) = ((c + 2 : Nat) : Int) := by rw [wr (by omega) (by omega)]; omega
    refine ⟨some (lit 7 (s.extract 1 (c + 1)), s.extract (c + 2) s.size), (4, s.extract 1 (c + 1), [], false, [], s.extract (c + 2) s.size, true), ⟨K2 + 1, fun k hk => ?_⟩, ⟨K3 + 3, fun k hk => ?_⟩, ?_, ?_, ?_⟩
    ·obtain ⟨j, rfl⟩ : ∃ j, k = j + 1 := ⟨k - 1, by omega⟩
     simp only
     rw [pq j (by omega)]
     unfold leaf
     rw [hrr]
     rfl
    ·obtain ⟨j, rfl⟩ : ∃ j, k = j + 3 := ⟨k - 3, by omega⟩
     simp only
     rw [sq j, h3 j (by omega), Option.bind_some, show toI (some c) = (c : Int) from rfl, if_neg (show ¬ (c : Int) < 0 by omega), w1, w2, if_pos (by omega), if_pos (by omega), if_pos (by omega), if_pos (by omega), Int.toNat_natCast, Int.toNat_natCast]
    ·rfl
    ·show (s.extract (c + 2) s.size).size < s.size
     rw [suf_size]; omega
    show (txt (lit 7 (s.extract 1 (c + 1)))).length + (s.extract (c + 2) s.size).size ≤ s.size
    rw [show txt (lit 7 (s.extract 1 (c + 1))) = 34 :: (bytesOf (s.extract 1 (c + 1)) ++ [34]) by simp [lit, txt]]
    simp only [List.length_cons, List.length_append, List.length_nil, bytesOf_length]
    rw [suf_size, mid_size (by omega)]
    omega
  /- words and numbers -/
  obtain ⟨K5, h5⟩ := num_l0 (s := s) (by omega)
  have bw := fun k => begin_word h0 hd hc c3 k
  have lits : ∀ (w : List UInt8) (k : Int) (x : Int), 4 ≤ w.length → has s w → (∃ K, ∀ j, K ≤ j → pV j s d = some (some (lit k ByteArray.empty, rest s w.length))) → (∃ K, ∀ j, K ≤ j → spec_BeginFj.f j s d = some (x, (⟨#[]⟩ : ByteArray), [], false, [], s.extract w.length s.size, true)) → kd k = x → (txt (lit k ByteArray.empty)).length ≤ w.length → AG s d := fun w k x hw4 hh hp hq hk hl => by
   refine ⟨_, _, hp, hq, ?_, ?_, ?_⟩
   ·rw [← hk]; rfl
   ·show (rest s w.length).size < s.size
    rw [rest_eq, suf_size]
    have := hh.1
    omega
   show (txt (lit k ByteArray.empty)).length + (rest s w.length).size ≤ s.size
   rw [rest_eq, suf_size]
   have := hh.1
   omega
  have numq : ∀ (o : Res), (∃ K, ∀ j, K ≤ j → pV j s d = some o) → (∃ K, ∀ j, K ≤ j → spec_BeginFj.f j s d = some (3, s.extract 0 (num s), [], false, [], s.extract (num s) s.size, decide (num s > 0))) → (num s = 0 → o = none) → (num s ≠ 0 → o = some (lit 4 (s.extract 0 (num s)), rest s (num s))) → AG s d := fun o hp hq h1 h2 => by
   by_cases hz : num s = 0
   ·rw [h1 hz] at hp
    refine ⟨none, _, hp, hq, ?_⟩
    show decide (num s > 0) = false
    exact decide_eq_false (by omega)
   rw [h2 hz] at hp
   have hle := num_le s
   refine ⟨_, _, hp, hq, ?_, ?_, ?_⟩
   ·rw [decide_eq_true (show num s > 0 by omega)]; rfl
   ·show (rest s (num s)).size < s.size
    rw [rest_eq, suf_size]; omega
   show (txt (lit 4 (s.extract 0 (num s)))).length + (rest s (num s)).size ≤ s.size
   rw [show txt (lit 4 (s.extract 0 (num s))) = bytesOf (s.extract 0 (num s)) by simp [lit, txt], bytesOf_length, rest_eq, suf_size, mid_size hle]
   omega
  by_cases c4 : bt s 0 = 116
  ·have hN : ¬ has s wN := fun h => by have := has_first h; rw [c4] at this; revert this; decide
   have hFq : ¬ has s wF := fun h => by have := has_first h; rw [c4] at this; revert this; decide
   have pq : ∀ j, pV (j + 1) s d = word s wT 5 (some none) := fun j => by
    rw [pV, if_neg (by omega), if_neg (by omega), if_neg c1, if_neg c2, if_neg c3, if_pos c4]; rfl
   by_cases hT : has s wT
   ·refine lits wT 5 2 (by decide) hT ⟨1, fun k hk => ?_⟩ ⟨6, fun k hk => ?_⟩ rfl (by decide)
    ·obtain ⟨j, rfl⟩ : ∃ j, k = j + 1 := ⟨k - 1, by omega⟩
     rw [pq j, word_has.1 hT]
    obtain ⟨j, rfl⟩ : ∃ j, k = j + 3 + 3 := ⟨k - 6, by omega⟩
    rw [bw, (word_N (j + 2)).2 hN, (word_F (j + 1)).2 hFq, (word_T j).1 hT]
   refine numq none ⟨1, fun k hk => ?_⟩ ⟨K5 + 7, fun k hk => ?_⟩ (fun _ => rfl) (fun h => absurd (num_low h0 (.inl c4)) h)
   ·obtain ⟨j, rfl⟩ : ∃ j, k = j + 1 := ⟨k - 1, by omega⟩
    rw [pq j, word_has.2 hT]
   obtain ⟨j, rfl⟩ : ∃ j, k = j + 4 + 3 := ⟨k - 7, by omega⟩
   rw [bw, (word_N (j + 3)).2 hN, (word_F (j + 2)).2 hFq, (word_T (j + 1)).2 hT, h5 j (by omega)]
  by_cases c5 : bt s 0 = 102
  ·have hN : ¬ has s wN := fun h => by have := has_first h; rw [c5] at this; revert this; decide
   have hT : ¬ has s wT := fun h => by have := has_first h; rw [c5] at this; revert this; decide
   have pq : ∀ j, pV (j + 1) s d = word s wF 6 (some none) := fun j => by
    rw [pV, if_neg (by omega), if_neg (by omega), if_neg c1, if_neg c2, if_neg c3, if_neg c4, if_pos c5]; rfl
   by_cases hFq : has s wF
   ·refine lits wF 6 1 (by decide) hFq ⟨1, fun k hk => ?_⟩ ⟨6, fun k hk => ?_⟩ rfl (by decide)
    ·obtain ⟨j, rfl⟩ : ∃ j, k = j + 1 := ⟨k - 1, by omega⟩
     rw [pq j, word_has.1 hFq]
    obtain ⟨j, rfl⟩ : ∃ j, k = j + 3 + 3 := ⟨k - 6, by omega⟩
    rw [bw, (word_N (j + 2)).2 hN, (word_F (j + 1)).1 hFq]
   refine numq none ⟨1, fun k hk => ?_⟩ ⟨K5 + 7, fun k hk => ?_⟩ (fun _ => rfl) (fun h => absurd (num_low h0 (.inr c5)) h)
   ·obtain ⟨j, rfl⟩ : ∃ j, k = j + 1 := ⟨k - 1, by omega⟩
    rw [pq j, word_has.2 hFq]
   obtain ⟨j, rfl⟩ : ∃ j, k = j + 4 + 3 := ⟨k - 7, by omega⟩
   rw [bw, (word_N (j + 3)).2 hN, (word_F (j + 2)).2 hFq, (word_T (j + 1)).2 hT, h5 j (by omega)]
  have hT : ¬ has s wT := fun h => c4 (has_first h)
  have hFq : ¬ has s wF := fun h => c5 (has_first h)
  by_cases c6 : bt s 0 = 110
  ·have pq : ∀ j, pV (j + 1) s d = word s wN 0 (if 3 ≤ s.size then (fastjson_zzFold.f j (s.extract 0 3) ⟨#[110, 97, 110]⟩).bind fun b => some (if b = true then some (lit 4 (s.extract 0 3), rest s 3) else none) else some none) := fun j => by
    rw [pV, if_neg (by omega), if_neg (by omega), if_neg c1, if_neg c2, if_neg c3, if_neg c4, if_neg c5, if_pos c6]; rfl
   by_cases hN : has s wN
   ·refine lits wN 0 0 (by decide) hN ⟨1, fun k hk => ?_⟩ ⟨6, fun k hk => ?_⟩ rfl (by decide)
    ·obtain ⟨j, rfl⟩ : ∃ j, k = j + 1 := ⟨k - 1, by omega⟩
     rw [pq j, word_has.1 hN]
    obtain ⟨j, rfl⟩ : ∃ j, k = j + 3 + 3 := ⟨k - 6, by omega⟩
    rw [bw, (word_N (j + 2)).1 hN]
   have hnum := num_n h0 c6
   have sq : ∃ K, ∀ j, K ≤ j → spec_BeginFj.f j s d = some (3, s.extract 0 (num s), [], false, [], s.extract (num s) s.size, decide (num s > 0)) := ⟨K5 + 7, fun k hk => by
    obtain ⟨j, rfl⟩ : ∃ j, k = j + 4 + 3 := ⟨k - 7, by omega⟩
    rw [bw, (word_N (j + 3)).2 hN, (word_F (j + 2)).2 hFq, (word_T (j + 1)).2 hT, h5 j (by omega)]⟩
   by_cases h3 : 3 ≤ s.size
   ·obtain ⟨K6, h6⟩ := nan_zz (y := s.extract 0 3) (by rw [mid_size h3])
    simp only at h6
    refine numq (if decide (nan3 (s.extract 0 3)) = true then some (lit 4 (s.extract 0 3), rest s 3) else none) ⟨K6 + 1, fun k hk => ?_⟩ sq (fun hz => ?_) (fun hz => ?_)
    ·obtain ⟨j, rfl⟩ : ∃ j, k = j + 1 := ⟨k - 1, by omega⟩
     rw [pq j, word_has.2 hN, if_pos h3, h6 j (by omega), Option.bind_some]
    ·by_cases ha : nan3 (s.extract 0 3)
     ·rw [hnum, if_pos ⟨h3, ha⟩] at hz; omega
     rw [if_neg (by simpa using ha)]
    by_cases ha : nan3 (s.extract 0 3)
    ·rw [hnum, if_pos (show 3 ≤ s.size ∧ nan3 (s.extract 0 3) from ⟨h3, ha⟩), if_pos (by simpa using ha)]
    rw [hnum, if_neg (fun q => ha q.2)] at hz; omega
   refine numq none ⟨1, fun k hk => ?_⟩ sq (fun _ => rfl) (fun hz => ?_)
   ·obtain ⟨j, rfl⟩ : ∃ j, k = j + 1 := ⟨k - 1, by omega⟩
    rw [pq j, word_has.2 hN, if_neg h3]
   rw [hnum, if_neg (fun q => h3 q.1)] at hz; omega
  have hN : ¬ has s wN := fun h => c6 (has_first h)
  obtain ⟨rr, ⟨K6, h6⟩, hS⟩ := rn_ev (s := s) (by omega) h0
  simp only at h6
  refine numq (leaf 4 rr) ⟨K6 + 1, fun k hk => ?_⟩ ⟨K5 + 7, fun k hk => ?_⟩ (fun hz => ?_) (fun hz => ?_)
  ·obtain ⟨j, rfl⟩ : ∃ j, k = j + 1 := ⟨k - 1, by omega⟩
   rw [pV, if_neg (by omega), if_neg (by omega), if_neg c1, if_neg c2, if_neg c3, if_neg c4, if_neg c5, if_neg c6, h6 j (by omega), Option.bind_some]
  ·obtain ⟨j, rfl⟩ : ∃ j, k = j + 4 + 3 := ⟨k - 7, by omega⟩
   rw [bw, (word_N (j + 3)).2 hN, (word_F (j + 2)).2 hFq, (word_T (j + 1)).2 hT, h5 j (by omega)]
  ·unfold NumSaid at hS
   rw [if_pos hz] at hS
   unfold leaf
   rw [hS, if_pos (by rfl)]
  unfold NumSaid at hS
  rw [if_neg hz] at hS
  unfold leaf
  rw [hS]
  rfl
end Go.Proofs.YtnajijaachgipaaDoor.J
end
section
namespace Go.Proofs.YtnajijaachgipaaDoor.J
open Go.RowKit Go.Proofs.YtnajijaachgipaaDoor.PT Go.Proofs.YtnajijaachgipaaDoor.PT.FJ Go.Proofs.YtnajijaachgipaaDoor.H Go.Proofs.YtnajijaachgipaaDoorW.PrintWords Go.Proofs.YtnajijaachgipaaDoorW.PrintLast
set_option linter.unusedSimpArgs false
set_option linter.unusedVariables false
theorem oneU_le (c : Int) (s : ByteArray) : (oneU c s).2.size ≤ s.size := by
 by_cases h : c = 117
 ·subst h
  unfold oneU
  rw [if_neg (by decide), if_neg (by decide), if_neg (by decide), if_neg (by decide), if_neg (by decide), if_neg (by decide), if_neg (by decide), if_neg (by decide), if_pos rfl]
  by_cases t4 : s.size < 4
  ·rw [if_pos t4]; exact Nat.le_refl _
  rw [if_neg t4]
  have h4 : (s.extract 4 s.size).size = s.size - 4 := suf_size s 4
  cases u4 (s.extract 0 4) with
  | none => exact Nat.le_refl _
  | some x =>
   simp only
   by_cases hs : sur x = false
   ·rw [if_pos hs]; simp only [h4]; omega
   rw [if_neg hs]
   by_cases hc : (s.extract 4 s.size).size < 6 ∨ bt (s.extract 4 s.size) 0 ≠ 92 ∨ bt (s.extract 4 s.size) 1 ≠ 117
   ·rw [if_pos hc]; simp only [h4]; omega
   rw [if_neg hc]
   cases u4 ((s.extract 4 s.size).extract 2 6) with
   | none => simp only [h4]; omega
   | some y =>
    have h7 : ((s.extract 4 s.size).extract 6 (s.extract 4 s.size).size).size = (s.extract 4 s.size).size - 6 := suf_size _ 6
    simp only
    rw [h7, h4]
    omega
 unfold oneU
 rw [if_neg h]
 repeat' split
 all_goals exact Nat.le_refl _
theorem loopU_ev : ∀ (m : Nat) (s : ByteArray), s.size ≤ m → ∀ out : List Int, ∃ l, ∀ k, m < k → loopU k out s = some l
 | m, s, hs, out => by
  by_cases h0 : s.size = 0
  ·refine ⟨out, fun k hk => ?_⟩
   obtain ⟨j, rfl⟩ : ∃ j, k = j + 1 := ⟨k - 1, by omega⟩
   rw [loopU, if_pos h0]
  cases m with
  | zero => omega
  | succ m =>
  have ho := oneU_le (bt s 0) (s.extract 1 s.size)
  rw [suf_size] at ho
  cases hi : ix 92 (bytesOf (oneU (bt s 0) (s.extract 1 s.size)).2) with
  | none =>
   refine ⟨out ++ (oneU (bt s 0) (s.extract 1 s.size)).1 ++ bytesOf (oneU (bt s 0) (s.extract 1 s.size)).2, fun k hk => ?_⟩
   obtain ⟨j, rfl⟩ : ∃ j, k = j + 1 := ⟨k - 1, by omega⟩
   rw [loopU, if_neg h0, hi]
  | some n =>
   obtain ⟨l, hl⟩ := loopU_ev m ((oneU (bt s 0) (s.extract 1 s.size)).2.extract (n + 1) (oneU (bt s 0) (s.extract 1 s.size)).2.size) (by rw [suf_size]; omega) (out ++ (oneU (bt s 0) (s.extract 1 s.size)).1 ++ bytesOf ((oneU (bt s 0) (s.extract 1 s.size)).2.extract 0 n))
   refine ⟨l, fun k hk => ?_⟩
   obtain ⟨j, rfl⟩ : ∃ j, k = j + 1 := ⟨k - 1, by omega⟩
   rw [loopU, if_neg h0, hi]
   exact hl j (by omega)
theorem unU_ev (s : ByteArray) : ∃ u, ∀ k, s.size < k → unU k s = some u := by
 unfold unU
 cases hi : ix 92 (bytesOf s) with
 | none => exact ⟨s, fun _ _ => rfl⟩
 | some n =>
  obtain ⟨l, hl⟩ := loopU_ev s.size (s.extract (n + 1) s.size) (by rw [suf_size]; omega) ((bytesOf s).take n)
  exact ⟨strOfNums l, fun k hk => by simp only [hl k hk, Option.bind_some]⟩
theorem unL_ev : ∀ ks : List ByteArray, (∀ s ∈ ks, s.size ≤ 100000) → ∃ us, ∃ K, ∀ k, K ≤ k → unL k ks = some us
 | [], _ => ⟨[], 0, fun k _ => by rw [unL]⟩
 | s :: ks, h => by
  obtain ⟨u, hu⟩ := unU_ev s
  obtain ⟨us, K, hus⟩ := unL_ev ks (fun s hs => h s (List.mem_cons_of_mem _ hs))
  refine ⟨u :: us, K + s.size + 1, fun k hk => ?_⟩
  rw [unL, if_pos (h s (List.mem_cons_self ..)), hu k (by omega), Option.bind_some, hus k (by omega), Option.bind_some]
theorem ndL_ev : ∀ ts : List FT, (∀ t ∈ ts, ∃ x, ∃ K, ∀ k, K ≤ k → nd k t = some x) → ∃ xs, ∃ K, ∀ k, K ≤ k → ndL k ts = some xs
 | [], _ => ⟨[], 0, fun k _ => by rw [ndL]⟩
 | t :: ts, h => by
  obtain ⟨x, K, hx⟩ := h t (List.mem_cons_self ..)
  obtain ⟨xs, K1, hxs⟩ := ndL_ev ts (fun t ht => h t (List.mem_cons_of_mem _ ht))
  refine ⟨x :: xs, K + K1, fun k hk => ?_⟩
  rw [ndL, hx k (by omega), Option.bind_some, hxs k (by omega), Option.bind_some]
theorem tl_mem : ∀ (ts : List FT) (t : FT), t ∈ ts → (txt t).length + 1 ≤ tl ts
 | t0 :: ts, t, h => by
  rw [tl]
  rcases List.mem_cons.1 h with rfl | h
  ·omega
  have := tl_mem ts t h; omega
theorem tl_len : ∀ ts : List FT, ts.length ≤ tl ts
 | [] => Nat.le_refl _
 | t :: ts => by have := tl_len ts; rw [tl, List.length_cons]; omega
theorem tlo_mem : ∀ (ks : List ByteArray) (ts : List FT), ks.length = ts.length → (∀ t ∈ ts, (txt t).length ≤ tlo ks ts) ∧ (∀ k ∈ ks, k.size ≤ tlo ks ts) ∧ ts.length ≤ tlo ks ts
 | [], [], _ => ⟨fun _ h => by simp at h, fun _ h => by simp at h, Nat.zero_le _⟩
 | [], _ :: _, h => by simp at h
 | _ :: _, [], h => by simp at h
 | k :: ks, t :: ts, h => by
  obtain ⟨h1, h2, h3⟩ := tlo_mem ks ts (by simpa using h)
  rw [tlo]
  refine ⟨fun u hu => ?_, fun u hu => ?_, by rw [List.length_cons]; omega⟩
  ·rcases List.mem_cons.1 hu with rfl | hu
   ·omega
   have := h1 u hu; omega
  rcases List.mem_cons.1 hu with rfl | hu
  ·omega
  have := h2 u hu; omega
/-- Every tree that Parse makes of a short text is told. -/
theorem nd_ev {t : FT} (hm : Made t) : (txt t).length ≤ 4000 → ∃ x, ∃ K, ∀ k, K ≤ k → nd k t = some x := by
 induction hm with
 | @leaf q s h =>
  intro hl
  rcases h with rfl | rfl | rfl | rfl | rfl
  ·obtain ⟨u, hu⟩ := unU_ev s
   refine ⟨⟨4, u, [], []⟩, s.size + 2, fun k hk => ?_⟩
   ·obtain ⟨j, rfl⟩ : ∃ j, k = j + 1 := ⟨k - 1, by omega⟩
    rw [txt, if_pos rfl] at hl
    simp only [List.length_cons, List.length_append, bytesOf_length] at hl
    rw [nd, if_pos rfl, if_pos (by omega), hu j (by omega), Option.bind_some]
  ·refine ⟨⟨3, s, [], []⟩, 1, fun k hk => ?_⟩
   ·obtain ⟨j, rfl⟩ : ∃ j, k = j + 1 := ⟨k - 1, by omega⟩
    rw [txt, if_neg (by decide), if_neg (by decide), if_neg (by decide), if_pos rfl, bytesOf_length] at hl
    rw [nd, if_neg (by decide), if_neg (by decide), if_neg (by decide), if_pos rfl, if_pos (by omega)]
  ·refine ⟨⟨2, ByteArray.empty, [], []⟩, 1, fun k hk => ?_⟩
   ·obtain ⟨j, rfl⟩ : ∃ j, k = j + 1 := ⟨k - 1, by omega⟩
    rw [nd, if_neg (by decide), if_neg (by decide), if_neg (by decide), if_neg (by decide), if_pos rfl]
  ·refine ⟨⟨1, ByteArray.empty, [], []⟩, 1, fun k hk => ?_⟩
   ·obtain ⟨j, rfl⟩ : ∃ j, k = j + 1 := ⟨k - 1, by omega⟩
    rw [nd, if_neg (by decide), if_neg (by decide), if_neg (by decide), if_neg (by decide), if_neg (by decide), if_pos rfl]
  refine ⟨⟨0, ByteArray.empty, [], []⟩, 1, fun k hk => ?_⟩
  ·obtain ⟨j, rfl⟩ : ∃ j, k = j + 1 := ⟨k - 1, by omega⟩
   rw [nd, if_neg (by decide), if_neg (by decide), if_neg (by decide), if_neg (by decide), if_neg (by decide), if_neg (by decide)]
 | @arr ts hts ih =>
  intro hl
  rw [txt, if_neg (by decide), if_neg (by decide), if_pos rfl] at hl
  simp only [List.length_cons, List.length_append, List.length_nil] at hl
  have hb : tl ts ≤ 4000 := by
   by_cases h : ts = []
   ·subst h; exact Nat.zero_le _
   have := txtA_tl ts h; omega
  obtain ⟨xs, K, hxs⟩ := ndL_ev ts (fun t ht => ih t ht (by have := tl_mem ts t ht; omega))
  refine ⟨⟨5, ByteArray.empty, [], xs⟩, K + 1, fun k hk => ?_⟩
  ·obtain ⟨j, rfl⟩ : ∃ j, k = j + 1 := ⟨k - 1, by omega⟩
   rw [nd, if_neg (by decide), if_neg (by decide), if_pos rfl, if_pos (by have := tl_len ts; omega), hxs j (by omega), Option.bind_some]
 | @obj ks ts hn hts ih =>
  intro hl
  rw [txt, if_neg (by decide), if_pos rfl] at hl
  simp only [List.length_cons, List.length_append, List.length_nil] at hl
  have hb : tlo ks ts ≤ 4000 := by
   by_cases h : ts = []
   ·subst h
    obtain rfl := List.length_eq_zero_iff.1 hn
    exact Nat.zero_le _
   have := txtO_tlo ks ts hn h; omega
  obtain ⟨h1, h2, h3⟩ := tlo_mem ks ts hn
  obtain ⟨xs, K, hxs⟩ := ndL_ev ts (fun t ht => ih t ht (by have := h1 t ht; omega))
  obtain ⟨us, K1, hus⟩ := unL_ev ks (fun s hs => by have := h2 s hs; omega)
  refine ⟨⟨6, ByteArray.empty, us, xs⟩, K + K1 + 1, fun k hk => ?_⟩
  ·obtain ⟨j, rfl⟩ : ∃ j, k = j + 1 := ⟨k - 1, by omega⟩
   rw [nd, if_neg (by decide), if_pos rfl, if_pos (by omega), hus j (by omega), Option.bind_some, hxs j (by omega), Option.bind_some]
end Go.Proofs.YtnajijaachgipaaDoor.J
end
section
namespace Go.Proofs.YtnajijaachgipaaDoor.J
open Go.RowKit Go.Proofs.YtnajijaachgipaaDoor.PT Go.Proofs.YtnajijaachgipaaDoorW.PrintWords Go.Proofs.YtnajijaachgipaaDoorW.PrintLast
set_option linter.unusedSimpArgs false
set_option linter.unusedVariables false
/-- A tree whose lists are short. -/
inductive Low : S38 → Prop
 | mk {x : S38} (h2 : x.f2.length ≤ 1000000) (h3 : x.f3.length ≤ 1000000) (h : ∀ y ∈ x.f3, Low y) : Low x
theorem wrap_nat {i : Nat} (h : i ≤ 1000000) : wrap64 ((i : Int) + 1) = ((i + 1 : Nat) : Int) := by unfold wrap64; omega
theorem rdT_get {xs : List S38} {i : Nat} (h : i < xs.length) : rd_T38 xs (i : Int) = xs[i] := by
 simp [rd_T38, rdOf, List.getD_eq_getElem?_getD, List.getElem?_eq_getElem h]
theorem same_ev {x : S38} (h : Low x) : ∃ K, ∀ k, K ≤ k → spec_Same.f k x.f0 x.f1 x.f2 x.f3 x.f0 x.f1 x.f2 x.f3 = some true := by
 induction h with
 | @mk x h2 h3 hk ih =>
  have l1 : ∀ d i : Nat, i + d = x.f3.length → ∃ K, ∀ k, K ≤ k → spec_Same.l1 k i x.f0 x.f1 x.f2 x.f3 x.f0 x.f1 x.f2 x.f3 = some true := by
   intro d
   induction d with
   | zero =>
    intro i hi
    refine ⟨1, fun k hk => ?_⟩
    obtain ⟨j, rfl⟩ : ∃ j, k = j + 1 := ⟨k - 1, by omega⟩
    rw [spec_Same.l1, if_neg (by omega)]
   | succ d ihd =>
    intro i hi
    have hlt : i < x.f3.length := by omega
    obtain ⟨K1, g1⟩ := ihd (i + 1) (by omega)
    obtain ⟨K2, g2⟩ := ih x.f3[i] (List.getElem_mem hlt)
    refine ⟨K1 + K2 + 1, fun k hk => ?_⟩
    obtain ⟨j, rfl⟩ : ∃ j, k = j + 1 := ⟨k - 1, by omega⟩
    rw [spec_Same.l1, if_pos (by omega), if_pos (by omega), if_pos (by omega), rdT_get hlt, g2 j (by omega), Option.bind_some, if_pos rfl, wrap_nat (by omega)]
    exact g1 j (by omega)
  have l0 : ∀ d i : Nat, i + d = x.f2.length → ∃ K, ∀ k, K ≤ k → spec_Same.l0 k i x.f0 x.f1 x.f2 x.f3 x.f0 x.f1 x.f2 x.f3 = some true := by
   intro d
   induction d with
   | zero =>
    intro i hi
    obtain ⟨K, g⟩ := l1 x.f3.length 0 (by omega)
    refine ⟨K + 1, fun k hk => ?_⟩
    obtain ⟨j, rfl⟩ : ∃ j, k = j + 1 := ⟨k - 1, by omega⟩
    rw [spec_Same.l0, if_neg (by omega)]
    exact g j (by omega)
   | succ d ihd =>
    intro i hi
    obtain ⟨K1, g1⟩ := ihd (i + 1) (by omega)
    refine ⟨K1 + 1, fun k hk => ?_⟩
    obtain ⟨j, rfl⟩ : ∃ j, k = j + 1 := ⟨k - 1, by omega⟩
    rw [spec_Same.l0, if_pos (by omega), if_pos (by omega), if_pos (by omega), if_pos rfl, wrap_nat (by omega)]
    exact g1 j (by omega)
  obtain ⟨K, g⟩ := l0 x.f2.length 0 (by omega)
  refine ⟨K + 2, fun k hk => ?_⟩
  obtain ⟨j, rfl⟩ : ∃ j, k = j + 2 := ⟨k - 2, by omega⟩
  have e : ((x.f3.length : Int) != (x.f3.length : Int)) = false := bne_self_eq_false _
  rw [spec_Same.f, if_pos rfl, if_pos rfl, if_pos rfl, e, spec_Same.j0, if_neg (by decide)]
  exact g j (by omega)
end Go.Proofs.YtnajijaachgipaaDoor.J
end
section
namespace Go.Proofs.YtnajijaachgipaaDoor.J
open Go.RowKit Go.Proofs.YtnajijaachgipaaDoor.PT Go.Proofs.YtnajijaachgipaaDoor.PT.FJ Go.Proofs.YtnajijaachgipaaDoor.H Go.Proofs.YtnajijaachgipaaDoorW.PrintWords Go.Proofs.YtnajijaachgipaaDoorW.PrintLast
set_option linter.unusedSimpArgs false
set_option linter.unusedVariables false
/-- What the one reads the other reads. -/
def LeY (a b : Option Res) : Prop := ∀ x, a = some (some x) → b = some (some x)
theorem LeY.refl (a : Option Res) : LeY a a := fun _ h => h
theorem LeY.no (b : Option Res) : LeY (some none) b := fun x h => by cases h
theorem LeY.ite {p : Prop} [Decidable p] {a b c d : Option Res} (h1 : LeY a b) (h2 : LeY c d) : LeY (if p then a else c) (if p then b else d) := by
 split
 ·exact h1
 exact h2
theorem LeY.bind {α : Type} {o : Option α} {f g : α → Option Res} (h : ∀ x, LeY (f x) (g x)) : LeY (o.bind f) (o.bind g) := by
 cases o with
 | none => exact LeY.refl _
 | some x => exact h x
theorem LeY.bindR {a b : Option Res} {f g : Res → Option Res} (h : LeY a b) (h0 : f none = some none) (h1 : ∀ x, LeY (f (some x)) (g (some x))) : LeY (a.bind f) (b.bind g) := by
 cases a with
 | none => intro x hx; cases hx
 | some r =>
  cases r with
  | none => intro x hx; rw [Option.bind_some, h0] at hx; cases hx
  | some y => rw [h y rfl, Option.bind_some, Option.bind_some]; exact h1 y
set_option maxHeartbeats 1000000 in
theorem deeper : ∀ k, (∀ s d e, e ≤ d → LeY (pV k s d) (pV k s e)) ∧ (∀ s d e, e ≤ d → LeY (pA k s d) (pA k s e)) ∧ (∀ s d e ts, e ≤ d → LeY (pAl k s d ts) (pAl k s e ts)) ∧ (∀ s d e, e ≤ d → LeY (pO k s d) (pO k s e)) ∧ (∀ s d e ks ts, e ≤ d → LeY (pOl k s d ks ts) (pOl k s e ks ts))
 | 0 => ⟨fun _ _ _ _ r h => by simp [pV] at h, fun _ _ _ _ r h => by simp [pA] at h, fun _ _ _ _ _ r h => by simp [pAl] at h, fun _ _ _ _ r h => by simp [pO] at h, fun _ _ _ _ _ _ r h => by simp [pOl] at h⟩
 | k + 1 => by
  obtain ⟨iV, iA, iAl, iO, iOl⟩ := deeper k
  refine ⟨?_, ?_, ?_, ?_, ?_⟩
  ·intro s d e he
   unfold pV
   refine LeY.ite (LeY.refl _) ?_
   by_cases hd : 300 < d + 1
   ·rw [if_pos hd]; exact LeY.no _
   rw [if_neg hd, if_neg (show ¬ 300 < e + 1 by omega)]
   exact LeY.ite (iO _ _ _ (by omega)) (LeY.ite (iA _ _ _ (by omega)) (LeY.refl _))
  ·intro s d e he
   unfold pA
   exact LeY.bind fun x => LeY.ite (LeY.refl _) (LeY.ite (LeY.refl _) (iAl _ _ _ _ he))
  ·intro s d e ts he
   unfold pAl
   exact LeY.bind fun x => LeY.bindR (iV _ _ _ he) rfl fun r => LeY.bind fun y => LeY.ite (LeY.refl _) (LeY.ite (iAl _ _ _ _ he) (LeY.refl _))
  ·intro s d e he
   unfold pO
   exact LeY.bind fun x => LeY.ite (LeY.refl _) (LeY.ite (LeY.refl _) (iOl _ _ _ _ _ he))
  intro s d e ks ts he
  unfold pOl
  exact LeY.bind fun x => LeY.ite (LeY.refl _) (LeY.ite (LeY.bind fun r => LeY.ite (LeY.refl _) (LeY.bind fun y => LeY.ite (LeY.refl _) (LeY.ite (LeY.bind fun z => LeY.bindR (iV _ _ _ he) rfl fun q => LeY.bind fun y => LeY.ite (LeY.refl _) (LeY.ite (iOl _ _ _ _ _ he) (LeY.refl _))) (LeY.refl _)))) (LeY.refl _))
/-- The tree that is told has short lists. -/
theorem nd_low : ∀ {t : FT}, Made t → ∀ {k : Nat} {x : S38}, nd k t = some x → Low x := by
 intro t hm
 induction hm with
 | @leaf q s h =>
  intro k x hx
  cases k with
  | zero => rw [nd] at hx; cases hx
  | succ k =>
   rcases h with rfl | rfl | rfl | rfl | rfl
   ·rw [nd, if_pos rfl] at hx
    split at hx
    ·obtain ⟨u, hu, hx⟩ := Option.bind_eq_some_iff.mp hx
     obtain rfl := Option.some.inj hx
     exact .mk (Nat.zero_le _) (Nat.zero_le _) (fun y hy => by simp at hy)
    cases hx
   ·rw [nd, if_neg (by decide), if_neg (by decide), if_neg (by decide), if_pos rfl] at hx
    split at hx
    ·obtain rfl := Option.some.inj hx
     exact .mk (Nat.zero_le _) (Nat.zero_le _) (fun y hy => by simp at hy)
    cases hx
   ·rw [nd, if_neg (by decide), if_neg (by decide), if_neg (by decide), if_neg (by decide), if_pos rfl] at hx
    obtain rfl := Option.some.inj hx
    exact .mk (Nat.zero_le _) (Nat.zero_le _) (fun y hy => by simp at hy)
   ·rw [nd, if_neg (by decide), if_neg (by decide), if_neg (by decide), if_neg (by decide), if_neg (by decide), if_pos rfl] at hx
    obtain rfl := Option.some.inj hx
    exact .mk (Nat.zero_le _) (Nat.zero_le _) (fun y hy => by simp at hy)
   rw [nd, if_neg (by decide), if_neg (by decide), if_neg (by decide), if_neg (by decide), if_neg (by decide), if_neg (by decide)] at hx
   obtain rfl := Option.some.inj hx
   exact .mk (Nat.zero_le _) (Nat.zero_le _) (fun y hy => by simp at hy)
 | @arr ts hts ih =>
  intro k x hx
  cases k with
  | zero => rw [nd] at hx; cases hx
  | succ k =>
   rw [nd, if_neg (by decide), if_neg (by decide), if_pos rfl] at hx
   split at hx
   ·rename_i hn
    obtain ⟨xs, hxs, hx⟩ := Option.bind_eq_some_iff.mp hx
    obtain rfl := Option.some.inj hx
    obtain ⟨hl, hg⟩ := ndL_get hxs
    refine .mk (Nat.zero_le _) (by rw [hl]; exact hn) (fun y hy => ?_)
    obtain ⟨i, hi, rfl⟩ := List.mem_iff_getElem.1 hy
    have hi2 : i < xs.length := hi
    have hi3 : i < ts.length := by omega
    obtain ⟨z, hz, hnd⟩ := hg i ts[i] (List.getElem?_eq_getElem hi3)
    rw [List.getElem?_eq_getElem hi] at hz
    obtain rfl := Option.some.inj hz
    exact ih _ (List.getElem_mem _) hnd
   cases hx
 | @obj ks ts hn hts ih =>
  intro k x hx
  cases k with
  | zero => rw [nd] at hx; cases hx
  | succ k =>
   rw [nd, if_neg (by decide), if_pos rfl] at hx
   split at hx
   ·rename_i hle
    obtain ⟨us, hus, hx⟩ := Option.bind_eq_some_iff.mp hx
    obtain ⟨xs, hxs, hx⟩ := Option.bind_eq_some_iff.mp hx
    obtain rfl := Option.some.inj hx
    obtain ⟨hl, hg⟩ := ndL_get hxs
    have hu := (unL_get hus).1
    refine .mk (by rw [hu, hn]; exact hle) (by rw [hl]; exact hle) (fun y hy => ?_)
    obtain ⟨i, hi, rfl⟩ := List.mem_iff_getElem.1 hy
    have hi2 : i < xs.length := hi
    have hi3 : i < ts.length := by omega
    obtain ⟨z, hz, hnd⟩ := hg i ts[i] (List.getElem?_eq_getElem hi3)
    rw [List.getElem?_eq_getElem hi] at hz
    obtain rfl := Option.some.inj hz
    exact ih _ (List.getElem_mem _) hnd
   cases hx
end Go.Proofs.YtnajijaachgipaaDoor.J
end
section
namespace Go.Proofs.YtnajijaachgipaaDoor.Pure
open Go.RowKit Go.Proofs.YtnajijaachgipaaDoor.PT Go.Proofs.YtnajijaachgipaaDoor.PT.FJ Go.Proofs.YtnajijaachgipaaDoor.H Go.Proofs.YtnajijaachgipaaDoor.J Go.Proofs.YtnajijaachgipaaDoorW.PrintWords Go.Proofs.YtnajijaachgipaaDoorW.PrintLast
set_option linter.unusedSimpArgs false
set_option linter.unusedVariables false
/-- What FjValueAt answers, and that it is told in enough rounds. -/
theorem at_ev {s : ByteArray} {d : Int} (hs : s.size ≤ 4000) (h0 : 0 ≤ d) (h1 : d ≤ 300) : ∃ R : Res, (∃ K, ∀ k, K ≤ k → pV k s d = some R) ∧ (match R with
  | none => ∃ K, ∀ k, K ≤ k → vaN k s d = some none
  | some y => ∃ x, Low x ∧ (∃ K, ∀ k, K ≤ k → nd k y.1 = some x) ∧ ∃ K, ∀ k, K ≤ k → vaN k s d = some (some (x, y.2))) := by
 obtain ⟨R, q, ⟨K1, e1⟩, ⟨K2, e2⟩, hF⟩ := agree 4001 (by omega) s d (by omega) h0 h1
 simp only at e1
 refine ⟨R, ⟨K1, e1⟩, ?_⟩
 cases R with
 | none => exact ⟨K1, fun k hk => by unfold vaN; rw [if_pos ⟨by omega, h0, h1⟩, e1 k hk, Option.bind_some]⟩
 | some y =>
  obtain ⟨hq, hr, hl⟩ := hF
  have hm : Made y.1 := (p_made K1).1 _ _ _ y.2 (e1 K1 (Nat.le_refl _))
  obtain ⟨x, K3, h3⟩ := nd_ev hm (by omega)
  refine ⟨x, nd_low hm (h3 K3 (Nat.le_refl _)), ⟨K3, h3⟩, K1 + K3, fun k hk => ?_⟩
  unfold vaN
  rw [if_pos ⟨by omega, h0, h1⟩, e1 k (by omega), Option.bind_some]
  simp only
  rw [h3 k (by omega), Option.bind_some]
theorem one_ev : ∃ K, ∀ k, K ≤ k → ∃ r1 r2 r3 r4 r5, impl_FjValueAt.f k (⟨#[49]⟩ : ByteArray) 299 = some (r1, r2, r3, r4, r5, true) := by
 have h0 : valueAt 8 (⟨#[49]⟩ : ByteArray) 299 = some (3, (⟨#[49]⟩ : ByteArray), [], [], (⟨#[]⟩ : ByteArray), true) := by kernel_rfl
 refine ⟨8, fun k hk => ⟨3, (⟨#[49]⟩ : ByteArray), [], [], (⟨#[]⟩ : ByteArray), ?_⟩⟩
 obtain ⟨j, rfl⟩ : ∃ j, k = 8 + j := ⟨k - 8, by omega⟩
 clear hk
 induction j with
 | zero => exact h0
 | succ j ih => exact valueAt_mono (8 + j) _ _ _ ih
theorem FnFjValueDeeper : laws_FnFjValueDeeper.Pure := by
 intro s a b _ ha hb
 unfold laws_FnFjValueDeeper.f
 by_cases hs : (s.size : Int) > 2147483647
 ·exact ⟨0, by rw [if_pos hs]⟩
 by_cases hm : (s.size : Int) > 4000
 ·exact ⟨0, by rw [if_neg hs, if_pos hm]⟩
 have ha2 : 0 ≤ a ∧ a ≤ 65535 := by
  have h1 : IntKind.u16.min ≤ a ∧ a ≤ IntKind.u16.max := by simpa [Lit.wf] using ha
  have e1 : IntKind.u16.min = 0 := rfl
  have e2 : IntKind.u16.max = 65535 := rfl
  rw [e1, e2] at h1
  exact h1
 have hb2 : 0 ≤ b ∧ b ≤ 65535 := by
  have h1 : IntKind.u16.min ≤ b ∧ b ≤ IntKind.u16.max := by simpa [Lit.wf] using hb
  have e1 : IntKind.u16.min = 0 := rfl
  have e2 : IntKind.u16.max = 65535 := rfl
  rw [e1, e2] at h1
  exact h1
 have wa : wrap64 a = a := by unfold wrap64; omega
 have wb : wrap64 b = b := by unfold wrap64; omega
 obtain ⟨d, hd⟩ : ∃ d, d = Int.tmod a 300 := ⟨_, rfl⟩
 have hd0 : 0 ≤ d := by rw [hd]; exact Int.tmod_nonneg _ ha2.1
 have hd1 : d < 300 := by rw [hd]; exact Int.tmod_lt_of_pos _ (by decide)
 have wd : wrap64 (d + 1) = d + 1 := by unfold wrap64; omega
 obtain ⟨e, he⟩ : ∃ e, e = Int.tmod b (d + 1) := ⟨_, rfl⟩
 have he0 : 0 ≤ e := by rw [he]; exact Int.tmod_nonneg _ hb2.1
 have he1 : e < d + 1 := by rw [he]; exact Int.tmod_lt_of_pos _ (by omega)
 obtain ⟨R, ⟨K0, h0⟩, hR⟩ := at_ev (s := s) (d := d) (by omega) hd0 (by omega)
 obtain ⟨Q, ⟨K1, h1⟩, hQ⟩ := at_ev (s := s) (d := e) (by omega) he0 (by omega)
 obtain ⟨K2, h2⟩ := one_ev
 have hv : ∀ {k : Nat} {c : Int} {o : Option (S38 × ByteArray)}, vaN k s c = some o → impl_FjValueAt.f k s c = some (tupV o) := fun h => by
  unfold impl_FjValueAt.f valueAt
  rw [h, Option.bind_some]
 have hQ' : ∃ o K, ∀ k, K ≤ k → vaN k s e = some o := by
  cases Q with
  | none => exact ⟨_, hQ⟩
  | some y => obtain ⟨x, _, _, h⟩ := hQ; exact ⟨_, h⟩
 cases R with
 | none =>
  obtain ⟨K3, h3⟩ := hR
  obtain ⟨o, K4, h4⟩ := hQ'
  refine ⟨K2 + K3 + K4, ?_⟩
  obtain ⟨r1, r2, r3, r4, r5, hone⟩ := h2 (K2 + K3 + K4) (by omega)
  rw [if_neg hs, if_neg hm, wa, wb, ← hd, wd, ← he, hv (h3 _ (by omega)), Option.bind_some, if_neg (by omega), hv (h4 _ (by omega)), Option.bind_some, hone, Option.bind_some]
  rfl
 | some y =>
  obtain ⟨x, hlow, ⟨K5, h5⟩, K3, h3⟩ := hR
  have hq : Q = some y := by
   have g1 := (deeper (K0 + K1)).1 s d e (by omega) y (h0 _ (by omega))
   rw [h1 _ (by omega)] at g1
   exact Option.some.inj g1
  subst hq
  obtain ⟨x2, _, ⟨K6, h6⟩, K4, h4⟩ := hQ
  have hx : x2 = x := by
   have g1 := h5 (K5 + K6) (by omega)
   rw [h6 _ (by omega)] at g1
   exact Option.some.inj g1
  subst hx
  obtain ⟨K7, h7⟩ := same_ev hlow
  refine ⟨K2 + K3 + K4 + K7, ?_⟩
  obtain ⟨r1, r2, r3, r4, r5, hone⟩ := h2 (K2 + K3 + K4 + K7) (by omega)
  rw [if_neg hs, if_neg hm, wa, wb, ← hd, wd, ← he, hv (h3 _ (by omega)), Option.bind_some, if_neg (by omega), hv (h4 _ (by omega)), Option.bind_some, hone, Option.bind_some]
  simp only [tupV, if_true]
  rw [h7 _ (by omega), Option.bind_some]
end Go.Proofs.YtnajijaachgipaaDoor.Pure
end
section
namespace Go.Proofs.YtnajijaachgipaaDoor.J
open Go.RowKit Go.Lib Go.Joins Go.Deep Go.Proofs.YtnajijaachgipaaDoorW.PrintWords
end Go.Proofs.YtnajijaachgipaaDoor.J
end
