/- Texts of this claim put together: PRx6, PRx7, PRx8, PRx9, PRx10. -/
import Derived.Test.YtnajijaachgipaaDoorB0
section
namespace Go.Proofs.YtnajijaachgipaaDoor.PR
open Go.RowKit Go.Proofs.YtnajijaachgipaaDoorW.PrintWords Go.Proofs.YtnajijaachgipaaDoorW.PrintLast Go.Proofs.YtnajijaachgipaaDoorW.PrintMore
attribute [local go_sem] max2_int min2_int max_two min_two max_three min_three max_four min_four   -- for this text's walks alone
set_option linter.unusedVariables false
set_option linter.unusedSimpArgs false
/-! ### spec_folds: function 68 -/
def spec_folds.l0 : Nat → ByteArray → ByteArray → Int → Option (Bool)
 | 0, _, _, _ => none
 | k + 1, x0, x1, x5 => if x5 < (x1.size : Int) then (if 0 ≤ x5 then (if x5 < (x0.size : Int) then (if (Go.bits .or .u8 (bt x0 x5) 32) = (bt x1 x5) then (spec_folds.l0 k x0 x1 (wrap64 (x5 + 1))) else (some false)) else (none)) else (none)) else (some true)
def spec_folds.f (k : Nat) (a0 : ByteArray) (a1 : ByteArray) : Option (Bool) := spec_folds.l0 k a0 a1 0
theorem spec_folds.mono_l : ∀ k, (∀ y0 y1 y2, LeO (spec_folds.l0 k y0 y1 y2) (spec_folds.l0 (k + 1) y0 y1 y2))
 | 0 => fun _ _ _ r h => by simp [spec_folds.l0] at h
 | k + 1 => by
  have ih0 := spec_folds.mono_l k
  ·intro y0 y1 y2
   unfold spec_folds.l0
   repeat' first
   | (with_reducible exact ih0 _ _ _)
   | (with_reducible exact LeO.refl _)
   | (with_reducible exact LeO.none _)
   | (with_reducible refine LeO.ite ?_ ?_)
   | (with_reducible refine LeO.bind ?_ (fun _ => ?_))
   | exact ih0 _ _ _
   | exact LeO.none _
   | refine LeO.ite ?_ ?_
   | refine LeO.bind ?_ (fun _ => ?_)
theorem spec_folds.mono : ∀ a0 a1 k, LeO (spec_folds.f k a0 a1) (spec_folds.f (k + 1) a0 a1) := by
 intro a0 a1 k
 have ih0 := spec_folds.mono_l k
 unfold spec_folds.f
 repeat' first
   | (with_reducible exact ih0 _ _ _)
   | (with_reducible exact LeO.refl _)
   | (with_reducible exact LeO.none _)
   | (with_reducible refine LeO.ite ?_ ?_)
   | (with_reducible refine LeO.bind ?_ (fun _ => ?_))
   | exact ih0 _ _ _
   | exact LeO.none _
   | refine LeO.ite ?_ ?_
   | refine LeO.bind ?_ (fun _ => ?_)
set_option maxHeartbeats 8000000 in
set_option maxRecDepth 100000 in
theorem spec_folds.calls (k : Nat) (a0 : ByteArray) (a1 : ByteArray) (r : Bool) (w : World) (h : spec_folds.f k a0 a1 = some r) :
  Calls Tryd.prog 68 #[.string a0, .string a1] w fun e w' => e = .returned (.bool r) ∧ Drawn0 w w' := by
 have H : (spec_folds.l0 k a0 a1 0) = some r := h
 clear h
 have H' := Aside0.mk H
 clear H
 go_enter Tryd.func68, Tryd.ntmps68
 go_wp2
 repeat (go_quiet (fail); try go_wp2)
 try simp only [Act.put, List.setIfInBounds_toArray, List.set_cons_succ, List.set_cons_zero]
 go_loopg [5] k (fun kq v5 w' => ∃ (x5_1 : Int), v5 = .int .i64 x5_1 ∧ Aside0 (spec_folds.l0 kq a0 a1 x5_1 = some r) ∧ Aside0 (kq ≤ k) ∧ Drawn0 w w')
 case atStart => exact ⟨(0), (by first | rfl | (simp; done) | (simp [*]; done)), H', ⟨Nat.le_refl _⟩, by repeat (first | exact Drawn0.refl _ | apply Drawn0.step)⟩
 case round =>
  clear H'
  try clear p2
  obtain ⟨x5_1, rfl, HA, HK1, ⟨m1, rfl⟩⟩ := hrel
  cases gk with
  | zero => exact absurd HA.out (by simp [spec_folds.l0])
  | succ k1 =>
   have H := HA.out
   clear HA
   simp only [spec_folds.l0] at H
   by_cases c3 : x5_1 < (a1.size : Int)
   ·rw [if_pos c3] at H
    have c3b0 : decide (x5_1 < (a1.size : Int)) = true := decide_eq_true c3
    clear c3
    by_cases c4 : 0 ≤ x5_1
    ·rw [if_pos c4] at H
     have c4b0 : decide (0 ≤ x5_1) = true := decide_eq_true c4
     clear c4
     by_cases c5 : x5_1 < (a0.size : Int)
     ·rw [if_pos c5] at H
      have c5b0 : decide (x5_1 < (a0.size : Int)) = true := decide_eq_true c5
      clear c5
      by_cases c8 : (Go.bits .or .u8 (bt a0 x5_1) 32) = (bt a1 x5_1)
      ·rw [if_pos c8] at H
       have c8b0 : ((Go.bits .or .u8 (bt a0 x5_1) 32) == (bt a1 x5_1)) = true := beq_iff_eq.mpr c8
       have c8b1 : ((Go.bits .or .u8 (bt a0 x5_1) 32) != (bt a1 x5_1)) = false := bne_eq_false_iff_eq.mpr c8
       clear c8
       have H' := Aside0.mk H
       clear H
       have p6 : 0 ≤ (x5_1 : Int) := of_decide_eq_true (by assumption)
       have q6 : x5_1 < (a0.size : Int) := of_decide_eq_true (by assumption)
       have hx6 := bt_at a0 x5_1
       replace p6 := eq_true p6
       replace q6 := eq_true q6
       have p7 : 0 ≤ (x5_1 : Int) := of_decide_eq_true (by assumption)
       have q7 : x5_1 < (a1.size : Int) := of_decide_eq_true (by assumption)
       have hx7 := bt_at a1 x5_1
       replace p7 := eq_true p7
       replace q7 := eq_true q7
       go_wp2
       repeat (go_quiet (fail); try go_wp2)
       go_roundg k1
       case measure => have := HK1.out; omega
       case rel => exact ⟨(wrap64 (x5_1 + 1)), (by first | rfl | (simp; done) | (simp [*]; done)), H', ⟨by have := HK1.out; omega⟩, by repeat (first | exact Drawn0.refl _ | apply Drawn0.step)⟩
      rw [if_neg c8] at H
      have c8b0 : ((Go.bits .or .u8 (bt a0 x5_1) 32) == (bt a1 x5_1)) = false := beq_eq_false_iff_ne.mpr c8
      have c8b1 : ((Go.bits .or .u8 (bt a0 x5_1) 32) != (bt a1 x5_1)) = true := bne_iff_ne.mpr c8
      obtain rfl := Option.some.inj H
      have p6 : 0 ≤ (x5_1 : Int) := of_decide_eq_true (by assumption)
      have q6 : x5_1 < (a0.size : Int) := of_decide_eq_true (by assumption)
      have hx6 := bt_at a0 x5_1
      replace p6 := eq_true p6
      replace q6 := eq_true q6
      have p7 : 0 ≤ (x5_1 : Int) := of_decide_eq_true (by assumption)
      have q7 : x5_1 < (a1.size : Int) := of_decide_eq_true (by assumption)
      have hx7 := bt_at a1 x5_1
      replace p7 := eq_true p7
      replace q7 := eq_true q7
      go_wp2
      repeat (go_quiet (fail); try go_wp2)
      go_ret
      exact ⟨by first | rfl | (simp; done) | (simp [*]; done), by repeat (first | exact Drawn0.refl _ | apply Drawn0.step)⟩
     rw [if_neg c5] at H
     exact absurd H (by simp)
    rw [if_neg c4] at H
    exact absurd H (by simp)
   rw [if_neg c3] at H
   have c3b0 : decide (x5_1 < (a1.size : Int)) = false := decide_eq_false c3
   clear c3
   obtain rfl := Option.some.inj H
   go_wp2
   repeat (go_quiet (fail); try go_wp2)
   go_ret
   exact ⟨by first | rfl | (simp; done) | (simp [*]; done), by repeat (first | exact Drawn0.refl _ | apply Drawn0.step)⟩
end Go.Proofs.YtnajijaachgipaaDoor.PR
end
section
namespace Go.Proofs.YtnajijaachgipaaDoor.PR
open Go.RowKit Go.Proofs.YtnajijaachgipaaDoorW.PrintWords Go.Proofs.YtnajijaachgipaaDoorW.PrintLast Go.Proofs.YtnajijaachgipaaDoorW.PrintMore
attribute [local go_sem] max2_int min2_int max_two min_two max_three min_three max_four min_four   -- for this text's walks alone
set_option linter.unusedVariables false
set_option linter.unusedSimpArgs false
/-! ### spec_fjNumber: function 45 -/
def spec_fjNumber.j0 : Nat → ByteArray → Int → Bool → Option (Int)
 | 0, _, _, _ => none
 | k + 1, x0, x3, x28 => if x28 = true then (some x3) else (if 0 ≤ x3 then (if x3 ≤ (x0.size : Int) then (if ((x0.extract (x3 : Int).toNat x0.size).size : Int) ≥ 3 then (if 0 ≤ 3 then (if 3 ≤ ((x0.extract (x3 : Int).toNat x0.size).size : Int) then ((spec_folds.f k ((x0.extract (x3 : Int).toNat x0.size).extract 0 3) (⟨#[105, 110, 102]⟩ : ByteArray)).bind fun t106 => (if t106 = true then (some (wrap64 (x3 + 3))) else ((spec_folds.f k ((x0.extract (x3 : Int).toNat x0.size).extract 0 3) (⟨#[110, 97, 110]⟩ : ByteArray)).bind fun t107 => (if t107 = true then (some (wrap64 (x3 + 3))) else (some 0))))) else (none)) else (none)) else (some 0)) else (none)) else (none))
def spec_fjNumber.f (k : Nat) (a0 : ByteArray) : Option (Int) := (spec_NumberBytes.f k a0).bind fun t105 => (if t105 > 1 then (spec_fjNumber.j0 k a0 t105 true) else (if t105 = (a0.size : Int) then (spec_fjNumber.j0 k a0 t105 true) else (if t105 = 1 then (if 0 < (a0.size : Int) then (if (bt a0 0) = 45 then (spec_fjNumber.j0 k a0 t105 false) else (spec_fjNumber.j0 k a0 t105 ((bt a0 0) != 43))) else (none)) else (spec_fjNumber.j0 k a0 t105 false))))
theorem spec_fjNumber.mono_l : ∀ k, (∀ y0 y1 y2, LeO (spec_fjNumber.j0 k y0 y1 y2) (spec_fjNumber.j0 (k + 1) y0 y1 y2))
 | 0 => fun _ _ _ r h => by simp [spec_fjNumber.j0] at h
 | k + 1 => by
  have ih0 := spec_fjNumber.mono_l k
  ·intro y0 y1 y2
   unfold spec_fjNumber.j0
   repeat' first
   | (with_reducible exact ih0 _ _ _)
   | (with_reducible exact spec_NumberBytes.mono _ _)
   | (with_reducible exact spec_folds.mono _ _ _)
   | (with_reducible exact LeO.refl _)
   | (with_reducible exact LeO.none _)
   | (with_reducible refine LeO.ite ?_ ?_)
   | (with_reducible refine LeO.bind ?_ (fun _ => ?_))
   | exact ih0 _ _ _
   | exact spec_NumberBytes.mono _ _
   | exact spec_folds.mono _ _ _
   | exact LeO.none _
   | refine LeO.ite ?_ ?_
   | refine LeO.bind ?_ (fun _ => ?_)
theorem spec_fjNumber.mono : ∀ a0 k, LeO (spec_fjNumber.f k a0) (spec_fjNumber.f (k + 1) a0) := by
 intro a0 k
 have ih0 := spec_fjNumber.mono_l k
 unfold spec_fjNumber.f
 repeat' first
   | (with_reducible exact ih0 _ _ _)
   | (with_reducible exact spec_NumberBytes.mono _ _)
   | (with_reducible exact spec_folds.mono _ _ _)
   | (with_reducible exact LeO.refl _)
   | (with_reducible exact LeO.none _)
   | (with_reducible refine LeO.ite ?_ ?_)
   | (with_reducible refine LeO.bind ?_ (fun _ => ?_))
   | exact ih0 _ _ _
   | exact spec_NumberBytes.mono _ _
   | exact spec_folds.mono _ _ _
   | exact LeO.none _
   | refine LeO.ite ?_ ?_
   | refine LeO.bind ?_ (fun _ => ?_)
set_option maxHeartbeats 8000000 in
set_option maxRecDepth 100000 in
theorem spec_fjNumber.calls (k : Nat) (a0 : ByteArray) (r : Int) (w : World) (h : spec_fjNumber.f k a0 = some r) :
  Calls Tryd.prog 45 #[.string a0] w fun e w' => e = .returned (.int .i64 r) ∧ Drawn0 w w' := by
 have H : ((spec_NumberBytes.f k a0).bind fun t105 => (if t105 > 1 then (spec_fjNumber.j0 k a0 t105 true) else (if t105 = (a0.size : Int) then (spec_fjNumber.j0 k a0 t105 true) else (if t105 = 1 then (if 0 < (a0.size : Int) then (if (bt a0 0) = 45 then (spec_fjNumber.j0 k a0 t105 false) else (spec_fjNumber.j0 k a0 t105 ((bt a0 0) != 43))) else (none)) else (spec_fjNumber.j0 k a0 t105 false))))) = some r := h
 clear h
 replace H := Option.bind_eq_some_iff.mp H
 obtain ⟨t105, A20, H⟩ := H
 replace H : (if t105 > 1 then (spec_fjNumber.j0 k a0 t105 true) else (if t105 = (a0.size : Int) then (spec_fjNumber.j0 k a0 t105 true) else (if t105 = 1 then (if 0 < (a0.size : Int) then (if (bt a0 0) = 45 then (spec_fjNumber.j0 k a0 t105 false) else (spec_fjNumber.j0 k a0 t105 ((bt a0 0) != 43))) else (none)) else (spec_fjNumber.j0 k a0 t105 false)))) = some r := H
 have A2 := Aside0.mk A20
 clear A20
 have HC3 := Aside0.mk H
 clear H
 go_enter Tryd.func45, Tryd.ntmps45
 go_upto_region 2 with (first | ((with_reducible refine gate_callee (f := 67) rfl ?_); refine goesL_ (some 6) rfl rfl Tryd.func67 (by kernel_rfl) rfl #[.string a0] rfl (by (try simp only [List.map_toArray, List.map_cons, List.map_nil]); first | done | rfl | (simp only [List.length_drop, List.length_take]; rfl)) ?_; (with_reducible refine (spec_NumberBytes.calls k a0 t105 _ A2.out).mono ?_); rintro e w' ⟨rfl, ⟨nd, rfl⟩⟩; refine ⟨_, rfl, ?_⟩))
 (try simp only [Act.put, List.setIfInBounds_toArray, List.set_cons_zero, List.set_cons_succ])
 go_cut [28] (fun v28 wc => ∃ (kq : Nat) (x28_2 : Bool), v28 = .bool x28_2 ∧ Aside0 (spec_fjNumber.j0 kq a0 t105 x28_2 = some r) ∧ Aside0 (kq ≤ k) ∧ Drawn0 w wc)
 case first =>
  have H := HC3.out
  clear HC3
  by_cases c4 : t105 > 1
  ·rw [if_pos c4] at H
   have c4b0 : decide (1 < t105) = true := decide_eq_true c4
   clear c4
   (first | rw [c4b0] | (simp only [i64_w, i32_w]; rw [c4b0]) | rw [c4b1] | skip)
   have H' := Aside0.mk H
   clear H
   go_wp2
   go_meet
   case rel => exact ⟨_, (true), (by first | rfl | (simp; done) | (simp [*]; done)), H', ⟨by first | omega | exact Nat.le_refl _⟩, by repeat (first | exact Drawn0.refl _ | apply Drawn0.step)⟩
  rw [if_neg c4] at H
  have c4b0 : decide (1 < t105) = false := decide_eq_false c4
  clear c4
  (first | rw [c4b0] | (simp only [i64_w, i32_w]; rw [c4b0]) | rw [c4b1] | skip)
  by_cases c5 : t105 = (a0.size : Int)
  ·rw [if_pos c5] at H
   have c5b0 : (t105 == (a0.size : Int)) = true := beq_iff_eq.mpr c5
   have c5b1 : (t105 != (a0.size : Int)) = false := bne_eq_false_iff_eq.mpr c5
   clear c5
   have H' := Aside0.mk H
   clear H
   go_wp2
   go_meet
   case rel => exact ⟨_, (true), (by first | rfl | (simp; done) | (simp [*]; done)), H', ⟨by first | omega | exact Nat.le_refl _⟩, by repeat (first | exact Drawn0.refl _ | apply Drawn0.step)⟩
  rw [if_neg c5] at H
  have c5b0 : (t105 == (a0.size : Int)) = false := beq_eq_false_iff_ne.mpr c5
  have c5b1 : (t105 != (a0.size : Int)) = true := bne_iff_ne.mpr c5
  by_cases c6 : t105 = 1
  ·rw [if_pos c6] at H
   have c6b0 : (t105 == 1) = true := beq_iff_eq.mpr c6
   have c6b1 : (t105 != 1) = false := bne_eq_false_iff_eq.mpr c6
   clear c6
   by_cases c7 : 0 < (a0.size : Int)
   ·rw [if_pos c7] at H
    have c7b0 : decide (0 < (a0.size : Int)) = true := decide_eq_true c7
    have c7b1 : decide (0 < a0.size) = true := decide_eq_true (by omega)
    clear c7
    by_cases c9 : (bt a0 0) = 45
    ·rw [if_pos c9] at H
     have c9b0 : ((bt a0 0) == 45) = true := beq_iff_eq.mpr c9
     have c9b1 : ((bt a0 0) != 45) = false := bne_eq_false_iff_eq.mpr c9
     clear c9
     have H' := Aside0.mk H
     clear H
     have p8 : 0 ≤ (0 : Int) := (by omega)
     have q8 : 0 < a0.size := (by have : (0 : Int) < (a0.size : Int) := of_decide_eq_true (by assumption); omega)
     have hx8 : ∀ h : 0 < a0.size, ((a0[0]'h).toNat : Int) = bt a0 0 := bt_at a0 0
     clear p8
     have qi8 : (0 < (a0.size : Int)) = True := eq_true (of_decide_eq_true (by assumption))
     replace q8 := eq_true q8
     go_wp2
     go_meet
     case rel => exact ⟨_, (false), (by first | rfl | (simp; done) | (simp [*]; done)), H', ⟨by first | omega | exact Nat.le_refl _⟩, by repeat (first | exact Drawn0.refl _ | apply Drawn0.step)⟩
    rw [if_neg c9] at H
    have c9b0 : ((bt a0 0) == 45) = false := beq_eq_false_iff_ne.mpr c9
    have c9b1 : ((bt a0 0) != 45) = true := bne_iff_ne.mpr c9
    have H' := Aside0.mk H
    clear H
    have p8 : 0 ≤ (0 : Int) := (by omega)
    have q8 : 0 < a0.size := (by have : (0 : Int) < (a0.size : Int) := of_decide_eq_true (by assumption); omega)
    have hx8 : ∀ h : 0 < a0.size, ((a0[0]'h).toNat : Int) = bt a0 0 := bt_at a0 0
    clear p8
    have qi8 : (0 < (a0.size : Int)) = True := eq_true (of_decide_eq_true (by assumption))
    replace q8 := eq_true q8
    have p10 : 0 ≤ (0 : Int) := (by omega)
    have q10 : 0 < a0.size := (by have : (0 : Int) < (a0.size : Int) := of_decide_eq_true (by assumption); omega)
    have hx10 : ∀ h : 0 < a0.size, ((a0[0]'h).toNat : Int) = bt a0 0 := bt_at a0 0
    clear p10
    have qi10 : (0 < (a0.size : Int)) = True := eq_true (of_decide_eq_true (by assumption))
    replace q10 := eq_true q10
    go_wp2
    go_meet
    case rel => exact ⟨_, (((bt a0 0) != 43)), (by first | rfl | (simp; done) | (simp [*]; done)), H', ⟨by first | omega | exact Nat.le_refl _⟩, by repeat (first | exact Drawn0.refl _ | apply Drawn0.step)⟩
   rw [if_neg c7] at H
   exact absurd H (by simp)
  rw [if_neg c6] at H
  have c6b0 : (t105 == 1) = false := beq_eq_false_iff_ne.mpr c6
  have c6b1 : (t105 != 1) = true := bne_iff_ne.mpr c6
  have H' := Aside0.mk H
  clear H
  go_wp2
  go_meet
  case rel => exact ⟨_, (false), (by first | rfl | (simp; done) | (simp [*]; done)), H', ⟨by first | omega | exact Nat.le_refl _⟩, by repeat (first | exact Drawn0.refl _ | apply Drawn0.step)⟩
 case rest =>
  clear HC3
  try clear p1
  try clear q1
  try clear hx1
  try clear qi1
  try clear p2
  try clear c4
  try clear c4b0
  try clear c4b1
  try clear c5
  try clear c5b0
  try clear c5b1
  try clear c6
  try clear c6b0
  try clear c6b1
  try clear c7
  try clear c7b0
  try clear c7b1
  try clear p8
  try clear q8
  try clear hx8
  try clear qi8
  try clear c9
  try clear c9b0
  try clear c9b1
  try clear p10
  try clear q10
  try clear hx10
  try clear qi10
  try clear p10
  try clear p8
  try clear q10
  try clear q8
  obtain ⟨kq, x28_2, rfl, HA, HJ2, ⟨mc2, rfl⟩⟩ := hcut
  cases kq with
  | zero => exact absurd HA.out (by simp [spec_fjNumber.j0])
  | succ kj2 =>
   have H := HA.out
   clear HA
   simp only [spec_fjNumber.j0] at H
   by_cases c11 : x28_2 = true
   ·subst c11
    have H1 : (some t105) = some r := by rw [if_pos rfl] at H; exact H
    clear H
    have H := H1
    clear H1
    obtain rfl := Option.some.inj H
    go_wp2
    go_ret
    exact ⟨by first | rfl | (simp; done) | (simp [*]; done), by repeat (first | exact Drawn0.refl _ | apply Drawn0.step)⟩
   replace c11 := Bool.eq_false_iff.mpr c11
   subst c11
   have H1 : (if 0 ≤ t105 then (if t105 ≤ (a0.size : Int) then (if ((a0.extract (t105 : Int).toNat a0.size).size : Int) ≥ 3 then (if 0 ≤ 3 then (if 3 ≤ ((a0.extract (t105 : Int).toNat a0.size).size : Int) then ((spec_folds.f kj2 ((a0.extract (t105 : Int).toNat a0.size).extract 0 3) (⟨#[105, 110, 102]⟩ : ByteArray)).bind fun t106 => (if t106 = true then (some (wrap64 (t105 + 3))) else ((spec_folds.f kj2 ((a0.extract (t105 : Int).toNat a0.size).extract 0 3) (⟨#[110, 97, 110]⟩ : ByteArray)).bind fun t107 => (if t107 = true then (some (wrap64 (t105 + 3))) else (some 0))))) else (none)) else (none)) else (some 0)) else (none)) else (none)) = some r := by rw [if_neg (show ¬ (false = true) by decide)] at H; exact H
   clear H
   have H := H1
   clear H1
   by_cases c12 : 0 ≤ t105
   ·rw [if_pos c12] at H
    have c12b0 := eq_true c12
    have c12b1 : decide (0 ≤ t105) = true := decide_eq_true c12
    clear c12
    by_cases c13 : t105 ≤ (a0.size : Int)
    ·rw [if_pos c13] at H
     have c13b0 := eq_true c13
     have c13b1 : decide (t105 ≤ (a0.size : Int)) = true := decide_eq_true c13
     clear c13
     obtain ⟨js14, hjs14⟩ : ∃ z_ : ByteArray, (a0.extract (t105 : Int).toNat a0.size) = z_ := ⟨_, rfl⟩
     replace H : (if (js14.size : Int) ≥ 3 then (if 0 ≤ 3 then (if 3 ≤ (js14.size : Int) then ((spec_folds.f kj2 (js14.extract 0 3) (⟨#[105, 110, 102]⟩ : ByteArray)).bind fun t106 => (if t106 = true then (some (wrap64 (t105 + 3))) else ((spec_folds.f kj2 (js14.extract 0 3) (⟨#[110, 97, 110]⟩ : ByteArray)).bind fun t107 => (if t107 = true then (some (wrap64 (t105 + 3))) else (some 0))))) else (none)) else (none)) else (some 0)) = some r := by first | (rw [hjs14] at H; exact H) | (simp only [hjs14] at H ⊢; exact H)
     by_cases c15 : (js14.size : Int) ≥ 3
     ·rw [if_pos c15] at H
      have c15b0 : decide (3 ≤ (js14.size : Int)) = true := decide_eq_true c15
      have c15b1 : decide (3 ≤ js14.size) = true := decide_eq_true (by omega)
      clear c15
      by_cases c16 : 0 ≤ 3
      ·rw [if_pos c16] at H
       have c16b0 := eq_true c16
       have c16b1 : decide (0 ≤ 3) = true := decide_eq_true c16
       clear c16
       by_cases c17 : 3 ≤ (js14.size : Int)
       ·rw [if_pos c17] at H
        have c17b0 := eq_true c17
        have c17b1 : decide (3 ≤ (js14.size : Int)) = true := decide_eq_true c17
        clear c17
        obtain ⟨js18, hjs18⟩ : ∃ z_ : ByteArray, (js14.extract 0 3) = z_ := ⟨_, rfl⟩
        replace H : ((spec_folds.f kj2 js18 (⟨#[105, 110, 102]⟩ : ByteArray)).bind fun t106 => (if t106 = true then (some (wrap64 (t105 + 3))) else ((spec_folds.f kj2 js18 (⟨#[110, 97, 110]⟩ : ByteArray)).bind fun t107 => (if t107 = true then (some (wrap64 (t105 + 3))) else (some 0))))) = some r := by first | (rw [hjs18] at H; exact H) | (simp only [hjs18] at H ⊢; exact H)
        replace H := Option.bind_eq_some_iff.mp H
        obtain ⟨t106, A190, H⟩ := H
        replace H : (if t106 = true then (some (wrap64 (t105 + 3))) else ((spec_folds.f kj2 js18 (⟨#[110, 97, 110]⟩ : ByteArray)).bind fun t107 => (if t107 = true then (some (wrap64 (t105 + 3))) else (some 0)))) = some r := H
        have A19 := Aside0.mk A190
        clear A190
        by_cases c20 : t106 = true
        ·subst c20
         have H1 : (some (wrap64 (t105 + 3))) = some r := by rw [if_pos rfl] at H; exact H
         clear H
         have H := H1
         clear H1
         obtain rfl := Option.some.inj H
         try have hcs21 := fun W_ : World => run_slice_string_l (P := Tryd.prog) W_ 9 a0 Tryd.underlying9 .i64 t105 (of_decide_eq_true (by assumption)) (of_decide_eq_true (by assumption))
         (try simp only [hjs14] at hcs21)
         try have hcs22 := fun W_ : World => run_slice_string_h (P := Tryd.prog) W_ 9 js14 Tryd.underlying9 .i64 3 (by omega) (of_decide_eq_true (by assumption))
         (try simp only [hjs18] at hcs22)
         go_wp2_with (first | (go_at_call 68; (with_reducible refine (spec_folds.calls kj2 js18 (⟨#[105, 110, 102]⟩ : ByteArray) true _ A19.out).mono ?_); rintro e w' ⟨rfl, ⟨nd, rfl⟩⟩))
         go_ret
         exact ⟨by first | rfl | (simp; done) | (simp [*]; done), by repeat (first | exact Drawn0.refl _ | apply Drawn0.step)⟩
        replace c20 := Bool.eq_false_iff.mpr c20
        subst c20
        have H1 : ((spec_folds.f kj2 js18 (⟨#[110, 97, 110]⟩ : ByteArray)).bind fun t107 => (if t107 = true then (some (wrap64 (t105 + 3))) else (some 0))) = some r := by rw [if_neg (show ¬ (false = true) by decide)] at H; exact H
        clear H
        have H := H1
        clear H1
        have c23b0 := eq_true (of_decide_eq_true (by assumption) : 0 ≤ 3)
        have c24b0 := eq_true (of_decide_eq_true (by assumption) : 3 ≤ (js14.size : Int))
        replace H := Option.bind_eq_some_iff.mp H
        obtain ⟨t107, A250, H⟩ := H
        replace H : (if t107 = true then (some (wrap64 (t105 + 3))) else (some 0)) = some r := H
        have A25 := Aside0.mk A250
        clear A250
        by_cases c26 : t107 = true
        ·subst c26
         have H1 : (some (wrap64 (t105 + 3))) = some r := by rw [if_pos rfl] at H; exact H
         clear H
         have H := H1
         clear H1
         obtain rfl := Option.some.inj H
         try have hcs27 := fun W_ : World => run_slice_string_l (P := Tryd.prog) W_ 9 a0 Tryd.underlying9 .i64 t105 (of_decide_eq_true (by assumption)) (of_decide_eq_true (by assumption))
         (try simp only [hjs14] at hcs27)
         try have hcs28 := fun W_ : World => run_slice_string_h (P := Tryd.prog) W_ 9 js14 Tryd.underlying9 .i64 3 (by omega) (of_decide_eq_true (by assumption))
         (try simp only [hjs18] at hcs28)
         go_wp2_with (first | (go_at_call 68; (with_reducible refine (spec_folds.calls kj2 js18 (⟨#[105, 110, 102]⟩ : ByteArray) false _ A19.out).mono ?_); rintro e w' ⟨rfl, ⟨nd, rfl⟩⟩; try have hcs29 := fun W_ : World => run_slice_string_h (P := Tryd.prog) W_ 9 js14 Tryd.underlying9 .i64 3 (by omega) (of_decide_eq_true (by assumption))) | (go_at_call 68; (with_reducible refine (spec_folds.calls kj2 js18 (⟨#[110, 97, 110]⟩ : ByteArray) true _ A25.out).mono ?_); rintro e w' ⟨rfl, ⟨nd, rfl⟩⟩))
         go_ret
         exact ⟨by first | rfl | (simp; done) | (simp [*]; done), by repeat (first | exact Drawn0.refl _ | apply Drawn0.step)⟩
        replace c26 := Bool.eq_false_iff.mpr c26
        subst c26
        have H1 : (some 0) = some r := by rw [if_neg (show ¬ (false = true) by decide)] at H; exact H
        clear H
        have H := H1
        clear H1
        obtain rfl := Option.some.inj H
        try have hcs30 := fun W_ : World => run_slice_string_l (P := Tryd.prog) W_ 9 a0 Tryd.underlying9 .i64 t105 (of_decide_eq_true (by assumption)) (of_decide_eq_true (by assumption))
        (try simp only [hjs14] at hcs30)
        try have hcs31 := fun W_ : World => run_slice_string_h (P := Tryd.prog) W_ 9 js14 Tryd.underlying9 .i64 3 (by omega) (of_decide_eq_true (by assumption))
        (try simp only [hjs18] at hcs31)
        go_wp2_with (first | (go_at_call 68; (with_reducible refine (spec_folds.calls kj2 js18 (⟨#[105, 110, 102]⟩ : ByteArray) false _ A19.out).mono ?_); rintro e w' ⟨rfl, ⟨nd, rfl⟩⟩; try have hcs32 := fun W_ : World => run_slice_string_h (P := Tryd.prog) W_ 9 js14 Tryd.underlying9 .i64 3 (by omega) (of_decide_eq_true (by assumption))) | (go_at_call 68; (with_reducible refine (spec_folds.calls kj2 js18 (⟨#[110, 97, 110]⟩ : ByteArray) false _ A25.out).mono ?_); rintro e w' ⟨rfl, ⟨nd, rfl⟩⟩))
        go_ret
        exact ⟨by first | rfl | (simp; done) | (simp [*]; done), by repeat (first | exact Drawn0.refl _ | apply Drawn0.step)⟩
       rw [if_neg c17] at H
       exact absurd H (by simp)
      rw [if_neg c16] at H
      exact absurd H (by simp)
     rw [if_neg c15] at H
     have c15b0 : decide (3 ≤ (js14.size : Int)) = false := decide_eq_false c15
     have c15b1 : decide (3 ≤ js14.size) = false := decide_eq_false (by omega)
     clear c15
     obtain rfl := Option.some.inj H
     try have hcs33 := fun W_ : World => run_slice_string_l (P := Tryd.prog) W_ 9 a0 Tryd.underlying9 .i64 t105 (of_decide_eq_true (by assumption)) (of_decide_eq_true (by assumption))
     (try simp only [hjs14] at hcs33)
     go_wp2
     go_ret
     exact ⟨by first | rfl | (simp; done) | (simp [*]; done), by repeat (first | exact Drawn0.refl _ | apply Drawn0.step)⟩
    rw [if_neg c13] at H
    exact absurd H (by simp)
   rw [if_neg c12] at H
   exact absurd H (by simp)
end Go.Proofs.YtnajijaachgipaaDoor.PR
end
section
namespace Go.Proofs.YtnajijaachgipaaDoor.PR
open Go.RowKit Go.Proofs.YtnajijaachgipaaDoorW.PrintWords Go.Proofs.YtnajijaachgipaaDoorW.PrintLast Go.Proofs.YtnajijaachgipaaDoorW.PrintMore
attribute [local go_sem] max2_int min2_int max_two min_two max_three min_three max_four min_four   -- for this text's walks alone
set_option linter.unusedVariables false
set_option linter.unusedSimpArgs false
/-! ### functions that call each other: spec_fjList, spec_BeginFj -/
mutual
def spec_fjList.j0 : Nat → ByteArray → Int → Int → Int → ByteArray → Bool → Option (Int × ByteArray × List ByteArray × Bool × (List (S30)) × ByteArray × Bool)
 | 0, _, _, _, _, _, _ => none
 | k + 1, x0, x1, x8, x110000, x110001, x110003 => if 1 ≤ (x0.size : Int) then ((spec_skipped.f k (x0.extract 1 x0.size)).bind fun t110 => (if t110.toList = ([] : List UInt8) then (spec_fjList.j1 k t110 x1 x8 false x110000 x110001 x110003) else (if 0 < (t110.size : Int) then (spec_fjList.j1 k t110 x1 x8 ((bt t110 0) == x8) x110000 x110001 x110003) else (none)))) else (none)
def spec_fjList.j1 : Nat → ByteArray → Int → Int → Bool → Int → ByteArray → Bool → Option (Int × ByteArray × List ByteArray × Bool × (List (S30)) × ByteArray × Bool)
 | 0, _, _, _, _, _, _, _ => none
 | k + 1, x0, x1, x8, x33, x110000, x110001, x110003 => if x33 = true then (if 1 ≤ (x0.size : Int) then (some (x110000, x110001, ([] : List ByteArray), x110003, ([] : List (S30)), x0.extract 1 x0.size, true)) else (none)) else (spec_fjList.l0 k x0 x1 x8 x110000 x110001 ([] : List ByteArray) x110003 ([] : List (S30)))
def spec_fjList.l0 : Nat → ByteArray → Int → Int → Int → ByteArray → List ByteArray → Bool → List (S30) → Option (Int × ByteArray × List ByteArray × Bool × (List (S30)) × ByteArray × Bool)
 | 0, _, _, _, _, _, _, _, _ => none
 | k + 1, x0, x1, x8, x110000, x110001, x110002, x110003, x110004 => if x110000 = 6 then ((spec_fjName.f k x0).bind fun bt111 => (if bt111.2.2 = true then (if x110002.length < 8796093022208 then (spec_fjList.j3 k bt111.2.1 x1 x8 x110000 x110001 (x110002 ++ [bt111.1]) x110003 x110004) else (none)) else (some (0, (⟨#[]⟩ : ByteArray), ([] : List ByteArray), false, ([] : List (S30)), (⟨#[]⟩ : ByteArray), false)))) else (spec_fjList.j3 k x0 x1 x8 x110000 x110001 x110002 x110003 x110004)
def spec_fjList.j3 : Nat → ByteArray → Int → Int → Int → ByteArray → List ByteArray → Bool → List (S30) → Option (Int × ByteArray × List ByteArray × Bool × (List (S30)) × ByteArray × Bool)
 | 0, _, _, _, _, _, _, _, _ => none
 | k + 1, x0, x1, x8, x110000, x110001, x110002, x110003, x110004 => (spec_BeginFj.f k x0 (wrap64 (x1 + 1))).bind fun bt117 => ((spec_skipped.f k bt117.2.2.2.2.2.1).bind fun t129 => (if bt117.2.2.2.2.2.2 = true then (if t129.toList = ([] : List UInt8) then (spec_fjList.j4 k t129 x1 x8 true x110000 x110001 x110002 x110003 x110004 bt117.1 bt117.2.1 bt117.2.2.1 bt117.2.2.2.1 bt117.2.2.2.2.1) else (if 0 < (t129.size : Int) then (if (bt t129 0) = 44 then (spec_fjList.j4 k t129 x1 x8 false x110000 x110001 x110002 x110003 x110004 bt117.1 bt117.2.1 bt117.2.2.1 bt117.2.2.2.1 bt117.2.2.2.2.1) else (spec_fjList.j4 k t129 x1 x8 ((bt t129 0) != x8) x110000 x110001 x110002 x110003 x110004 bt117.1 bt117.2.1 bt117.2.2.1 bt117.2.2.2.1 bt117.2.2.2.2.1)) else (none))) else (spec_fjList.j4 k t129 x1 x8 true x110000 x110001 x110002 x110003 x110004 bt117.1 bt117.2.1 bt117.2.2.1 bt117.2.2.2.1 bt117.2.2.2.2.1)))
def spec_fjList.j4 : Nat → ByteArray → Int → Int → Bool → Int → ByteArray → List ByteArray → Bool → List (S30) → Int → ByteArray → List ByteArray → Bool → List (S30) → Option (Int × ByteArray × List ByteArray × Bool × (List (S30)) × ByteArray × Bool)
 | 0, _, _, _, _, _, _, _, _, _, _, _, _, _, _ => none
 | k + 1, x0, x1, x8, x82, x110000, x110001, x110002, x110003, x110004, x129000, x129001, x129002, x129003, x129004 => if x82 = true then (some (0, (⟨#[]⟩ : ByteArray), ([] : List ByteArray), false, ([] : List (S30)), (⟨#[]⟩ : ByteArray), false)) else (if x110004.length < 1759218604441 then ((some (x110004 ++ [(⟨x129000, x129001, x129002, x129003, x129004⟩ : S30)] : List (S30))).bind fun y130 => (if 0 < (x0.size : Int) then (if (bt x0 0) = x8 then (if 1 ≤ (x0.size : Int) then (some (x110000, x110001, x110002, x110003, y130, x0.extract 1 x0.size, true)) else (none)) else (if 1 ≤ (x0.size : Int) then ((spec_skipped.f k (x0.extract 1 x0.size)).bind fun t133 => (spec_fjList.l0 k t133 x1 x8 x110000 x110001 x110002 x110003 y130)) else (none))) else (none))) else (none))
def spec_fjList.f : Nat → ByteArray → Int → Option (Int × ByteArray × List ByteArray × Bool × (List (S30)) × ByteArray × Bool)
 | 0, _, _ => none
 | k + 1, a0, a1 => if 0 < (a0.size : Int) then (if (bt a0 0) = 123 then (spec_fjList.j0 k a0 a1 (((bt a0 0) + 2) % 256) 6 (⟨#[]⟩ : ByteArray) false) else (spec_fjList.j0 k a0 a1 (((bt a0 0) + 2) % 256) 5 (⟨#[]⟩ : ByteArray) false)) else (none)
def spec_BeginFj.j0 : Nat → ByteArray → Int → Bool → Option (Int × ByteArray × List ByteArray × Bool × (List (S30)) × ByteArray × Bool)
 | 0, _, _, _ => none
 | k + 1, x0, x1, x17 => if x17 = true then (some (0, (⟨#[]⟩ : ByteArray), ([] : List ByteArray), false, ([] : List (S30)), (⟨#[]⟩ : ByteArray), false)) else (if 0 < (x0.size : Int) then (if (bt x0 0) = 123 then (spec_BeginFj.j1 k x0 x1 (bt x0 0) ((bt x0 0) == 123)) else (spec_BeginFj.j1 k x0 x1 (bt x0 0) ((bt x0 0) == 91))) else (none))
def spec_BeginFj.j1 : Nat → ByteArray → Int → Int → Bool → Option (Int × ByteArray × List ByteArray × Bool × (List (S30)) × ByteArray × Bool)
 | 0, _, _, _, _ => none
 | k + 1, x0, x1, x20, x21 => if x21 = true then ((spec_fjList.f k x0 x1).bind fun bt135 => (some (bt135.1, bt135.2.1, bt135.2.2.1, bt135.2.2.2.1, bt135.2.2.2.2.1, bt135.2.2.2.2.2.1, bt135.2.2.2.2.2.2))) else (if x20 = 34 then (if 1 ≤ (x0.size : Int) then ((spec_Closing.f k (x0.extract 1 x0.size)).bind fun t146 => (if t146 < 0 then (some (0, (⟨#[]⟩ : ByteArray), ([] : List ByteArray), false, ([] : List (S30)), (⟨#[]⟩ : ByteArray), false)) else (if 1 ≤ (wrap64 (t146 + 1)) then (if (wrap64 (t146 + 1)) ≤ (x0.size : Int) then (if 0 ≤ (wrap64 (t146 + 2)) then (if (wrap64 (t146 + 2)) ≤ (x0.size : Int) then (some (4, x0.extract 1 ((wrap64 (t146 + 1)) : Int).toNat, ([] : List ByteArray), false, ([] : List (S30)), x0.extract ((wrap64 (t146 + 2)) : Int).toNat x0.size, true)) else (none)) else (none)) else (none)) else (none)))) else (none)) else ((some (([(⟨#[110, 117, 108, 108]⟩ : ByteArray), (⟨#[102, 97, 108, 115, 101]⟩ : ByteArray), (⟨#[116, 114, 117, 101]⟩ : ByteArray)] : List ByteArray) : List ByteArray)).bind fun y147 => (spec_BeginFj.l0 k x0 y147 (y147.length : Int) 0)))
def spec_BeginFj.l0 : Nat → ByteArray → List ByteArray → Int → Int → Option (Int × ByteArray × List ByteArray × Bool × (List (S30)) × ByteArray × Bool)
 | 0, _, _, _, _ => none
 | k + 1, x0, x8, x49, x50 => if x50 < x49 then (if 0 ≤ x50 then (if x50 < (x8.length : Int) then (if (x0.size : Int) ≥ ((rdOf ByteArray.empty x8 x50).size : Int) then (if 0 ≤ ((rdOf ByteArray.empty x8 x50).size : Int) then (if ((rdOf ByteArray.empty x8 x50).size : Int) ≤ (x0.size : Int) then (if (x0.extract 0 (((rdOf ByteArray.empty x8 x50).size : Int) : Int).toNat).toList = (rdOf ByteArray.empty x8 x50).toList then (some (x50, (⟨#[]⟩ : ByteArray), ([] : List ByteArray), false, ([] : List (S30)), x0.extract (((rdOf ByteArray.empty x8 x50).size : Int) : Int).toNat x0.size, true)) else (spec_BeginFj.l0 k x0 x8 x49 (wrap64 (x50 + 1)))) else (none)) else (none)) else (spec_BeginFj.l0 k x0 x8 x49 (wrap64 (x50 + 1)))) else (none)) else (none)) else ((spec_fjNumber.f k x0).bind fun t151 => (if 0 ≤ t151 then (if t151 ≤ (x0.size : Int) then (some (3, x0.extract 0 (t151 : Int).toNat, ([] : List ByteArray), false, ([] : List (S30)), x0.extract (t151 : Int).toNat x0.size, decide (t151 > 0))) else (none)) else (none)))
def spec_BeginFj.f : Nat → ByteArray → Int → Option (Int × ByteArray × List ByteArray × Bool × (List (S30)) × ByteArray × Bool)
 | 0, _, _ => none
 | k + 1, a0, a1 => if a0.toList = ([] : List UInt8) then (spec_BeginFj.j0 k a0 a1 true) else (spec_BeginFj.j0 k a0 a1 (decide (a1 ≥ 300)))
end
theorem spec_BeginFj.scc_mono_l : ∀ k, (∀ y0 y1, LeO (spec_fjList.f k y0 y1) (spec_fjList.f (k + 1) y0 y1)) ∧ (∀ y0 y1 y2 y3 y4 y5, LeO (spec_fjList.j0 k y0 y1 y2 y3 y4 y5) (spec_fjList.j0 (k + 1) y0 y1 y2 y3 y4 y5)) ∧ (∀ y0 y1 y2 y3 y4 y5 y6, LeO (spec_fjList.j1 k y0 y1 y2 y3 y4 y5 y6) (spec_fjList.j1 (k + 1) y0 y1 y2 y3 y4 y5 y6)) ∧ (∀ y0 y1 y2 y3 y4 y5 y6 y7, LeO (spec_fjList.l0 k y0 y1 y2 y3 y4 y5 y6 y7) (spec_fjList.l0 (k + 1) y0 y1 y2 y3 y4 y5 y6 y7)) ∧ (∀ y0 y1 y2 y3 y4 y5 y6 y7, LeO (spec_fjList.j3 k y0 y1 y2 y3 y4 y5 y6 y7) (spec_fjList.j3 (k + 1) y0 y1 y2 y3 y4 y5 y6 y7)) ∧ (∀ y0 y1 y2 y3 y4 y5 y6 y7 y8 y9 y10 y11 y12 y13, LeO (spec_fjList.j4 k y0 y1 y2 y3 y4 y5 y6 y7 y8 y9 y10 y11 y12 y13) (spec_fjList.j4 (k + 1) y0 y1 y2 y3 y4 y5 y6 y7 y8 y9 y10 y11 y12 y13)) ∧ (∀ y0 y1, LeO (spec_BeginFj.f k y0 y1) (spec_BeginFj.f (k + 1) y0 y1)) ∧ (∀ y0 y1 y2, LeO (spec_BeginFj.j0 k y0 y1 y2) (spec_BeginFj.j0 (k + 1) y0 y1 y2)) ∧ (∀ y0 y1 y2 y3, LeO (spec_BeginFj.j1 k y0 y1 y2 y3) (spec_BeginFj.j1 (k + 1) y0 y1 y2 y3)) ∧ (∀ y0 y1 y2 y3, LeO (spec_BeginFj.l0 k y0 y1 y2 y3) (spec_BeginFj.l0 (k + 1) y0 y1 y2 y3))
 | 0 => ⟨fun _ _ r h => by simp [spec_fjList.f] at h, fun _ _ _ _ _ _ r h => by simp [spec_fjList.j0] at h, fun _ _ _ _ _ _ _ r h => by simp [spec_fjList.j1] at h, fun _ _ _ _ _ _ _ _ r h => by simp [spec_fjList.l0] at h, fun _ _ _ _ _ _ _ _ r h => by simp [spec_fjList.j3] at h, fun _ _ _ _ _ _ _ _ _ _ _ _ _ _ r h => by simp [spec_fjList.j4] at h, fun _ _ r h => by simp [spec_BeginFj.f] at h, fun _ _ _ r h => by simp [spec_BeginFj.j0] at h, fun _ _ _ _ r h => by simp [spec_BeginFj.j1] at h, fun _ _ _ _ r h => by simp [spec_BeginFj.l0] at h⟩
 | k + 1 => by
  obtain ⟨ih0, ih1, ih2, ih3, ih4, ih5, ih6, ih7, ih8, ih9⟩ := spec_BeginFj.scc_mono_l k
  refine ⟨?_, ?_, ?_, ?_, ?_, ?_, ?_, ?_, ?_, ?_⟩
  ·intro y0 y1
   unfold spec_fjList.f
   repeat' first
   | (with_reducible exact ih0 _ _)
   | (with_reducible exact ih1 _ _ _ _ _ _)
   | (with_reducible exact ih2 _ _ _ _ _ _ _)
   | (with_reducible exact ih3 _ _ _ _ _ _ _ _)
   | (with_reducible exact ih4 _ _ _ _ _ _ _ _)
   | (with_reducible exact ih5 _ _ _ _ _ _ _ _ _ _ _ _ _ _)
   | (with_reducible exact ih6 _ _)
   | (with_reducible exact ih7 _ _ _)
   | (with_reducible exact ih8 _ _ _ _)
   | (with_reducible exact ih9 _ _ _ _)
   | (with_reducible exact spec_Closing.mono _ _)
   | (with_reducible exact spec_fjName.mono _ _)
   | (with_reducible exact spec_fjNumber.mono _ _)
   | (with_reducible exact spec_skipped.mono _ _)
   | (with_reducible exact LeO.refl _)
   | (with_reducible exact LeO.none _)
   | (with_reducible refine LeO.ite ?_ ?_)
   | (with_reducible refine LeO.bind ?_ (fun _ => ?_))
   | exact ih0 _ _
   | exact ih1 _ _ _ _ _ _
   | exact ih2 _ _ _ _ _ _ _
   | exact ih3 _ _ _ _ _ _ _ _
   | exact ih4 _ _ _ _ _ _ _ _
   | exact ih5 _ _ _ _ _ _ _ _ _ _ _ _ _ _
   | exact ih6 _ _
   | exact ih7 _ _ _
   | exact ih8 _ _ _ _
   | exact ih9 _ _ _ _
   | exact spec_Closing.mono _ _
   | exact spec_fjName.mono _ _
   | exact spec_fjNumber.mono _ _
   | exact spec_skipped.mono _ _
   | exact LeO.none _
   | refine LeO.ite ?_ ?_
   | refine LeO.bind ?_ (fun _ => ?_)
  ·intro y0 y1 y2 y3 y4 y5
   unfold spec_fjList.j0
   repeat' first
   | (with_reducible exact ih0 _ _)
   | (with_reducible exact ih1 _ _ _ _ _ _)
   | (with_reducible exact ih2 _ _ _ _ _ _ _)
   | (with_reducible exact ih3 _ _ _ _ _ _ _ _)
   | (with_reducible exact ih4 _ _ _ _ _ _ _ _)
   | (with_reducible exact ih5 _ _ _ _ _ _ _ _ _ _ _ _ _ _)
   | (with_reducible exact ih6 _ _)
   | (with_reducible exact ih7 _ _ _)
   | (with_reducible exact ih8 _ _ _ _)
   | (with_reducible exact ih9 _ _ _ _)
   | (with_reducible exact spec_Closing.mono _ _)
   | (with_reducible exact spec_fjName.mono _ _)
   | (with_reducible exact spec_fjNumber.mono _ _)
   | (with_reducible exact spec_skipped.mono _ _)
   | (with_reducible exact LeO.refl _)
   | (with_reducible exact LeO.none _)
   | (with_reducible refine LeO.ite ?_ ?_)
   | (with_reducible refine LeO.bind ?_ (fun _ => ?_))
   | exact ih0 _ _
   | exact ih1 _ _ _ _ _ _
   | exact ih2 _ _ _ _ _ _ _
   | exact ih3 _ _ _ _ _ _ _ _
   | exact ih4 _ _ _ _ _ _ _ _
   | exact ih5 _ _ _ _ _ _ _ _ _ _ _ _ _ _
   | exact ih6 _ _
   | exact ih7 _ _ _
   | exact ih8 _ _ _ _
   | exact ih9 _ _ _ _
   | exact spec_Closing.mono _ _
   | exact spec_fjName.mono _ _
   | exact spec_fjNumber.mono _ _
   | exact spec_skipped.mono _ _
   | exact LeO.none _
   | refine LeO.ite ?_ ?_
   | refine LeO.bind ?_ (fun _ => ?_)
  ·intro y0 y1 y2 y3 y4 y5 y6
   unfold spec_fjList.j1
   repeat' first
   | (with_reducible exact ih0 _ _)
   | (with_reducible exact ih1 _ _ _ _ _ _)
   | (with_reducible exact ih2 _ _ _ _ _ _ _)
   | (with_reducible exact ih3 _ _ _ _ _ _ _ _)
   | (with_reducible exact ih4 _ _ _ _ _ _ _ _)
   | (with_reducible exact ih5 _ _ _ _ _ _ _ _ _ _ _ _ _ _)
   | (with_reducible exact ih6 _ _)
   | (with_reducible exact ih7 _ _ _)
   | (with_reducible exact ih8 _ _ _ _)
   | (with_reducible exact ih9 _ _ _ _)
   | (with_reducible exact spec_Closing.mono _ _)
   | (with_reducible exact spec_fjName.mono _ _)
   | (with_reducible exact spec_fjNumber.mono _ _)
   | (with_reducible exact spec_skipped.mono _ _)
   | (with_reducible exact LeO.refl _)
   | (with_reducible exact LeO.none _)
   | (with_reducible refine LeO.ite ?_ ?_)
   | (with_reducible refine LeO.bind ?_ (fun _ => ?_))
   | exact ih0 _ _
   | exact ih1 _ _ _ _ _ _
   | exact ih2 _ _ _ _ _ _ _
   | exact ih3 _ _ _ _ _ _ _ _
   | exact ih4 _ _ _ _ _ _ _ _
   | exact ih5 _ _ _ _ _ _ _ _ _ _ _ _ _ _
   | exact ih6 _ _
   | exact ih7 _ _ _
   | exact ih8 _ _ _ _
   | exact ih9 _ _ _ _
   | exact spec_Closing.mono _ _
   | exact spec_fjName.mono _ _
   | exact spec_fjNumber.mono _ _
   | exact spec_skipped.mono _ _
   | exact LeO.none _
   | refine LeO.ite ?_ ?_
   | refine LeO.bind ?_ (fun _ => ?_)
  ·intro y0 y1 y2 y3 y4 y5 y6 y7
   unfold spec_fjList.l0
   repeat' first
   | (with_reducible exact ih0 _ _)
   | (with_reducible exact ih1 _ _ _ _ _ _)
   | (with_reducible exact ih2 _ _ _ _ _ _ _)
   | (with_reducible exact ih3 _ _ _ _ _ _ _ _)
   | (with_reducible exact ih4 _ _ _ _ _ _ _ _)
   | (with_reducible exact ih5 _ _ _ _ _ _ _ _ _ _ _ _ _ _)
   | (with_reducible exact ih6 _ _)
   | (with_reducible exact ih7 _ _ _)
   | (with_reducible exact ih8 _ _ _ _)
   | (with_reducible exact ih9 _ _ _ _)
   | (with_reducible exact spec_Closing.mono _ _)
   | (with_reducible exact spec_fjName.mono _ _)
   | (with_reducible exact spec_fjNumber.mono _ _)
   | (with_reducible exact spec_skipped.mono _ _)
   | (with_reducible exact LeO.refl _)
   | (with_reducible exact LeO.none _)
   | (with_reducible refine LeO.ite ?_ ?_)
   | (with_reducible refine LeO.bind ?_ (fun _ => ?_))
   | exact ih0 _ _
   | exact ih1 _ _ _ _ _ _
   | exact ih2 _ _ _ _ _ _ _
   | exact ih3 _ _ _ _ _ _ _ _
   | exact ih4 _ _ _ _ _ _ _ _
   | exact ih5 _ _ _ _ _ _ _ _ _ _ _ _ _ _
   | exact ih6 _ _
   | exact ih7 _ _ _
   | exact ih8 _ _ _ _
   | exact ih9 _ _ _ _
   | exact spec_Closing.mono _ _
   | exact spec_fjName.mono _ _
   | exact spec_fjNumber.mono _ _
   | exact spec_skipped.mono _ _
   | exact LeO.none _
   | refine LeO.ite ?_ ?_
   | refine LeO.bind ?_ (fun _ => ?_)
  ·intro y0 y1 y2 y3 y4 y5 y6 y7
   unfold spec_fjList.j3
   repeat' first
   | (with_reducible exact ih0 _ _)
   | (with_reducible exact ih1 _ _ _ _ _ _)
   | (with_reducible exact ih2 _ _ _ _ _ _ _)
   | (with_reducible exact ih3 _ _ _ _ _ _ _ _)
   | (with_reducible exact ih4 _ _ _ _ _ _ _ _)
   | (with_reducible exact ih5 _ _ _ _ _ _ _ _ _ _ _ _ _ _)
   | (with_reducible exact ih6 _ _)
   | (with_reducible exact ih7 _ _ _)
   | (with_reducible exact ih8 _ _ _ _)
   | (with_reducible exact ih9 _ _ _ _)
   | (with_reducible exact spec_Closing.mono _ _)
   | (with_reducible exact spec_fjName.mono _ _)
   | (with_reducible exact spec_fjNumber.mono _ _)
   | (with_reducible exact spec_skipped.mono _ _)
   | (with_reducible exact LeO.refl _)
   | (with_reducible exact LeO.none _)
   | (with_reducible refine LeO.ite ?_ ?_)
   | (with_reducible refine LeO.bind ?_ (fun _ => ?_))
   | exact ih0 _ _
   | exact ih1 _ _ _ _ _ _
   | exact ih2 _ _ _ _ _ _ _
   | exact ih3 _ _ _ _ _ _ _ _
   | exact ih4 _ _ _ _ _ _ _ _
   | exact ih5 _ _ _ _ _ _ _ _ _ _ _ _ _ _
   | exact ih6 _ _
   | exact ih7 _ _ _
   | exact ih8 _ _ _ _
   | exact ih9 _ _ _ _
   | exact spec_Closing.mono _ _
   | exact spec_fjName.mono _ _
   | exact spec_fjNumber.mono _ _
   | exact spec_skipped.mono _ _
   | exact LeO.none _
   | refine LeO.ite ?_ ?_
   | refine LeO.bind ?_ (fun _ => ?_)
  ·intro y0 y1 y2 y3 y4 y5 y6 y7 y8 y9 y10 y11 y12 y13
   unfold spec_fjList.j4
   repeat' first
   | (with_reducible exact ih0 _ _)
   | (with_reducible exact ih1 _ _ _ _ _ _)
   | (with_reducible exact ih2 _ _ _ _ _ _ _)
   | (with_reducible exact ih3 _ _ _ _ _ _ _ _)
   | (with_reducible exact ih4 _ _ _ _ _ _ _ _)
   | (with_reducible exact ih5 _ _ _ _ _ _ _ _ _ _ _ _ _ _)
   | (with_reducible exact ih6 _ _)
   | (with_reducible exact ih7 _ _ _)
   | (with_reducible exact ih8 _ _ _ _)
   | (with_reducible exact ih9 _ _ _ _)
   | (with_reducible exact spec_Closing.mono _ _)
   | (with_reducible exact spec_fjName.mono _ _)
   | (with_reducible exact spec_fjNumber.mono _ _)
   | (with_reducible exact spec_skipped.mono _ _)
   | (with_reducible exact LeO.refl _)
   | (with_reducible exact LeO.none _)
   | (with_reducible refine LeO.ite ?_ ?_)
   | (with_reducible refine LeO.bind ?_ (fun _ => ?_))
   | exact ih0 _ _
   | exact ih1 _ _ _ _ _ _
   | exact ih2 _ _ _ _ _ _ _
   | exact ih3 _ _ _ _ _ _ _ _
   | exact ih4 _ _ _ _ _ _ _ _
   | exact ih5 _ _ _ _ _ _ _ _ _ _ _ _ _ _
   | exact ih6 _ _
   | exact ih7 _ _ _
   | exact ih8 _ _ _ _
   | exact ih9 _ _ _ _
   | exact spec_Closing.mono _ _
   | exact spec_fjName.mono _ _
   | exact spec_fjNumber.mono _ _
   | exact spec_skipped.mono _ _
   | exact LeO.none _
   | refine LeO.ite ?_ ?_
   | refine LeO.bind ?_ (fun _ => ?_)
  ·intro y0 y1
   unfold spec_BeginFj.f
   repeat' first
   | (with_reducible exact ih0 _ _)
   | (with_reducible exact ih1 _ _ _ _ _ _)
   | (with_reducible exact ih2 _ _ _ _ _ _ _)
   | (with_reducible exact ih3 _ _ _ _ _ _ _ _)
   | (with_reducible exact ih4 _ _ _ _ _ _ _ _)
   | (with_reducible exact ih5 _ _ _ _ _ _ _ _ _ _ _ _ _ _)
   | (with_reducible exact ih6 _ _)
   | (with_reducible exact ih7 _ _ _)
   | (with_reducible exact ih8 _ _ _ _)
   | (with_reducible exact ih9 _ _ _ _)
   | (with_reducible exact spec_Closing.mono _ _)
   | (with_reducible exact spec_fjName.mono _ _)
   | (with_reducible exact spec_fjNumber.mono _ _)
   | (with_reducible exact spec_skipped.mono _ _)
   | (with_reducible exact LeO.refl _)
   | (with_reducible exact LeO.none _)
   | (with_reducible refine LeO.ite ?_ ?_)
   | (with_reducible refine LeO.bind ?_ (fun _ => ?_))
   | exact ih0 _ _
   | exact ih1 _ _ _ _ _ _
   | exact ih2 _ _ _ _ _ _ _
   | exact ih3 _ _ _ _ _ _ _ _
   | exact ih4 _ _ _ _ _ _ _ _
   | exact ih5 _ _ _ _ _ _ _ _ _ _ _ _ _ _
   | exact ih6 _ _
   | exact ih7 _ _ _
   | exact ih8 _ _ _ _
   | exact ih9 _ _ _ _
   | exact spec_Closing.mono _ _
   | exact spec_fjName.mono _ _
   | exact spec_fjNumber.mono _ _
   | exact spec_skipped.mono _ _
   | exact LeO.none _
   | refine LeO.ite ?_ ?_
   | refine LeO.bind ?_ (fun _ => ?_)
  ·intro y0 y1 y2
   unfold spec_BeginFj.j0
   repeat' first
   | (with_reducible exact ih0 _ _)
   | (with_reducible exact ih1 _ _ _ _ _ _)
   | (with_reducible exact ih2 _ _ _ _ _ _ _)
   | (with_reducible exact ih3 _ _ _ _ _ _ _ _)
   | (with_reducible exact ih4 _ _ _ _ _ _ _ _)
   | (with_reducible exact ih5 _ _ _ _ _ _ _ _ _ _ _ _ _ _)
   | (with_reducible exact ih6 _ _)
   | (with_reducible exact ih7 _ _ _)
   | (with_reducible exact ih8 _ _ _ _)
   | (with_reducible exact ih9 _ _ _ _)
   | (with_reducible exact spec_Closing.mono _ _)
   | (with_reducible exact spec_fjName.mono _ _)
   | (with_reducible exact spec_fjNumber.mono _ _)
   | (with_reducible exact spec_skipped.mono _ _)
   | (with_reducible exact LeO.refl _)
   | (with_reducible exact LeO.none _)
   | (with_reducible refine LeO.ite ?_ ?_)
   | (with_reducible refine LeO.bind ?_ (fun _ => ?_))
   | exact ih0 _ _
   | exact ih1 _ _ _ _ _ _
   | exact ih2 _ _ _ _ _ _ _
   | exact ih3 _ _ _ _ _ _ _ _
   | exact ih4 _ _ _ _ _ _ _ _
   | exact ih5 _ _ _ _ _ _ _ _ _ _ _ _ _ _
   | exact ih6 _ _
   | exact ih7 _ _ _
   | exact ih8 _ _ _ _
   | exact ih9 _ _ _ _
   | exact spec_Closing.mono _ _
   | exact spec_fjName.mono _ _
   | exact spec_fjNumber.mono _ _
   | exact spec_skipped.mono _ _
   | exact LeO.none _
   | refine LeO.ite ?_ ?_
   | refine LeO.bind ?_ (fun _ => ?_)
  ·intro y0 y1 y2 y3
   unfold spec_BeginFj.j1
   repeat' first
   | (with_reducible exact ih0 _ _)
   | (with_reducible exact ih1 _ _ _ _ _ _)
   | (with_reducible exact ih2 _ _ _ _ _ _ _)
   | (with_reducible exact ih3 _ _ _ _ _ _ _ _)
   | (with_reducible exact ih4 _ _ _ _ _ _ _ _)
   | (with_reducible exact ih5 _ _ _ _ _ _ _ _ _ _ _ _ _ _)
   | (with_reducible exact ih6 _ _)
   | (with_reducible exact ih7 _ _ _)
   | (with_reducible exact ih8 _ _ _ _)
   | (with_reducible exact ih9 _ _ _ _)
   | (with_reducible exact spec_Closing.mono _ _)
   | (with_reducible exact spec_fjName.mono _ _)
   | (with_reducible exact spec_fjNumber.mono _ _)
   | (with_reducible exact spec_skipped.mono _ _)
   | (with_reducible exact LeO.refl _)
   | (with_reducible exact LeO.none _)
   | (with_reducible refine LeO.ite ?_ ?_)
   | (with_reducible refine LeO.bind ?_ (fun _ => ?_))
   | exact ih0 _ _
   | exact ih1 _ _ _ _ _ _
   | exact ih2 _ _ _ _ _ _ _
   | exact ih3 _ _ _ _ _ _ _ _
   | exact ih4 _ _ _ _ _ _ _ _
   | exact ih5 _ _ _ _ _ _ _ _ _ _ _ _ _ _
   | exact ih6 _ _
   | exact ih7 _ _ _
   | exact ih8 _ _ _ _
   | exact ih9 _ _ _ _
   | exact spec_Closing.mono _ _
   | exact spec_fjName.mono _ _
   | exact spec_fjNumber.mono _ _
   | exact spec_skipped.mono _ _
   | exact LeO.none _
   | refine LeO.ite ?_ ?_
   | refine LeO.bind ?_ (fun _ => ?_)
  intro y0 y1 y2 y3
  unfold spec_BeginFj.l0
  repeat' first
  | (with_reducible exact ih0 _ _)
  | (with_reducible exact ih1 _ _ _ _ _ _)
  | (with_reducible exact ih2 _ _ _ _ _ _ _)
  | (with_reducible exact ih3 _ _ _ _ _ _ _ _)
  | (with_reducible exact ih4 _ _ _ _ _ _ _ _)
  | (with_reducible exact ih5 _ _ _ _ _ _ _ _ _ _ _ _ _ _)
  | (with_reducible exact ih6 _ _)
  | (with_reducible exact ih7 _ _ _)
  | (with_reducible exact ih8 _ _ _ _)
  | (with_reducible exact ih9 _ _ _ _)
  | (with_reducible exact spec_Closing.mono _ _)
  | (with_reducible exact spec_fjName.mono _ _)
  | (with_reducible exact spec_fjNumber.mono _ _)
  | (with_reducible exact spec_skipped.mono _ _)
  | (with_reducible exact LeO.refl _)
  | (with_reducible exact LeO.none _)
  | (with_reducible refine LeO.ite ?_ ?_)
  | (with_reducible refine LeO.bind ?_ (fun _ => ?_))
  | exact ih0 _ _
  | exact ih1 _ _ _ _ _ _
  | exact ih2 _ _ _ _ _ _ _
  | exact ih3 _ _ _ _ _ _ _ _
  | exact ih4 _ _ _ _ _ _ _ _
  | exact ih5 _ _ _ _ _ _ _ _ _ _ _ _ _ _
  | exact ih6 _ _
  | exact ih7 _ _ _
  | exact ih8 _ _ _ _
  | exact ih9 _ _ _ _
  | exact spec_Closing.mono _ _
  | exact spec_fjName.mono _ _
  | exact spec_fjNumber.mono _ _
  | exact spec_skipped.mono _ _
  | exact LeO.none _
  | refine LeO.ite ?_ ?_
  | refine LeO.bind ?_ (fun _ => ?_)
theorem spec_fjList.mono : ∀ a0 a1 k, LeO (spec_fjList.f k a0 a1) (spec_fjList.f (k + 1) a0 a1) := by
 intro a0 a1 k
 obtain ⟨ih0, ih1, ih2, ih3, ih4, ih5, ih6, ih7, ih8, ih9⟩ := spec_BeginFj.scc_mono_l k
 exact ih0 a0 a1
theorem spec_BeginFj.mono : ∀ a0 a1 k, LeO (spec_BeginFj.f k a0 a1) (spec_BeginFj.f (k + 1) a0 a1) := by
 intro a0 a1 k
 obtain ⟨ih0, ih1, ih2, ih3, ih4, ih5, ih6, ih7, ih8, ih9⟩ := spec_BeginFj.scc_mono_l k
 exact ih6 a0 a1
end Go.Proofs.YtnajijaachgipaaDoor.PR
end
section
namespace Go.Proofs.YtnajijaachgipaaDoor.PR
open Go.RowKit Go.Proofs.YtnajijaachgipaaDoorW.PrintWords Go.Proofs.YtnajijaachgipaaDoorW.PrintLast Go.Proofs.YtnajijaachgipaaDoorW.PrintMore
attribute [local go_sem] max2_int min2_int max_two min_two max_three min_three max_four min_four   -- for this text's walks alone
set_option linter.unusedVariables false
set_option linter.unusedSimpArgs false
/-! ### spec_fjList: function 43 -/
set_option maxHeartbeats 8000000 in
set_option maxRecDepth 100000 in
theorem spec_fjList.calls_scc (k : Nat) (ih_43 : ∀ j_, j_ < k → ∀ (a0 : ByteArray) (a1 : Int) (r1 : Int) (r2 : ByteArray) (r3 : List ByteArray) (r4 : Bool) (r5 : List (S30)) (r6 : ByteArray) (r7 : Bool) (w : World) (h : spec_fjList.f j_ a0 a1 = some (r1, r2, r3, r4, r5, r6, r7)),
  Calls Tryd.prog 43 #[.string a0, .int .i64 a1] w fun e w' => ∃ v2_ v4_ : Value, e = .returned (.tuple #[.agg #[.int .i64 r1, .string r2, v2_, .bool r4, v4_], .string r6, .bool r7]) ∧ Kd.R Kd.string 9 w' w.heap.size (fun _ => True) v2_ r3 ∧ Kd.R k30 30 w' w.heap.size (fun k_ => some k_ ≠ (v2_ : Value).ownBlock) v4_ r5 ∧ Below w.heap.size w w') (ih_25 : ∀ j_, j_ < k → ∀ (a0 : ByteArray) (a1 : Int) (r1 : Int) (r2 : ByteArray) (r3 : List ByteArray) (r4 : Bool) (r5 : List (S30)) (r6 : ByteArray) (r7 : Bool) (w : World) (h : spec_BeginFj.f j_ a0 a1 = some (r1, r2, r3, r4, r5, r6, r7)),
  Calls Tryd.prog 25 #[.string a0, .int .i64 a1] w fun e w' => ∃ v2_ v4_ : Value, e = .returned (.tuple #[.agg #[.int .i64 r1, .string r2, v2_, .bool r4, v4_], .string r6, .bool r7]) ∧ Kd.R Kd.string 9 w' w.heap.size (fun _ => True) v2_ r3 ∧ Kd.R k30 30 w' w.heap.size (fun k_ => some k_ ≠ (v2_ : Value).ownBlock) v4_ r5 ∧ Below w.heap.size w w') : ∀ (a0 : ByteArray) (a1 : Int) (r1 : Int) (r2 : ByteArray) (r3 : List ByteArray) (r4 : Bool) (r5 : List (S30)) (r6 : ByteArray) (r7 : Bool) (w : World) (h : spec_fjList.f k a0 a1 = some (r1, r2, r3, r4, r5, r6, r7)),
  Calls Tryd.prog 43 #[.string a0, .int .i64 a1] w fun e w' => ∃ v2_ v4_ : Value, e = .returned (.tuple #[.agg #[.int .i64 r1, .string r2, v2_, .bool r4, v4_], .string r6, .bool r7]) ∧ Kd.R Kd.string 9 w' w.heap.size (fun _ => True) v2_ r3 ∧ Kd.R k30 30 w' w.heap.size (fun k_ => some k_ ≠ (v2_ : Value).ownBlock) v4_ r5 ∧ Below w.heap.size w w' := by
 intro a0 a1 r1 r2 r3 r4 r5 r6 r7 w h
 cases k with
 | zero => exact absurd h (by simp [spec_fjList.f])
 | succ k =>
 simp only [spec_fjList.f] at h
 have hu30 := Tryd.underlying30
 have HB := Aside0.mk (Below.refl w.heap.size w)
 have H : (if 0 < (a0.size : Int) then (if (bt a0 0) = 123 then (spec_fjList.j0 k a0 a1 (((bt a0 0) + 2) % 256) 6 (⟨#[]⟩ : ByteArray) false) else (spec_fjList.j0 k a0 a1 (((bt a0 0) + 2) % 256) 5 (⟨#[]⟩ : ByteArray) false)) else (none)) = some (r1, r2, r3, r4, r5, r6, r7) := h
 clear h
 by_cases c3 : 0 < (a0.size : Int)
 ·rw [if_pos c3] at H
  have c3b0 : decide (0 < (a0.size : Int)) = true := decide_eq_true c3
  have c3b1 : decide (0 < a0.size) = true := decide_eq_true (by omega)
  clear c3
  have HC6 := Aside0.mk H
  clear H
  go_enter Tryd.func43, Tryd.ntmps43
  try go_wp2_with (first | ((with_reducible refine gate_dst (N := 4) rfl ?_); refine box_event ?hg (N := 4) ?hd (cs := #[.int .i64 0, .string (⟨#[]⟩ : ByteArray), .slice none 0 0, .bool false, .slice none 0 0]) (t := 30) ?hr ?_; (case hd => rfl); (case hg => rfl); (case hr => first | (go_simp; done) | (go_simp; rfl)); intro gb108 hg w7 hbox hb; have n0_ := Aside0.mk (below_step (by repeat (first | (with_reducible first | exact HB.out | apply below_alloc | apply pw_below_drewN | apply below_drew1) | exact HB.out)) hb); have n1_ := Aside0.mk (hbox); have n2_ := Aside0.mk ((by rw [hg]; exact (below_size (by repeat (first | (with_reducible first | exact HB.out | apply below_alloc | apply pw_below_drewN | apply below_drew1) | exact HB.out))) : w.heap.size ≤ gb108)); have n3_ := Aside0.mk ((by rw [hg]; exact (below_size (by repeat (first | (with_reducible first | exact HB.out | apply below_alloc | apply pw_below_drewN | apply below_drew1) | exact HB.out))) : w.heap.size ≤ gb108)); clear HB; have HB := n0_; have BK108 := n1_; have GW108 := n2_; have GE108 := n3_; clear n0_ n1_ n2_ n3_; clear hb hbox hg))
  have n0_ := Aside0.mk (blk_drew BK108.out)
  have n1_ := Aside0.mk (below_drew1 HB.out)
  clear BK108
  clear HB
  have BK108 := n0_
  have HB := n1_
  clear n0_ n1_
  have p4 : 0 ≤ (0 : Int) := (by omega)
  have q4 : 0 < a0.size := (by have : (0 : Int) < (a0.size : Int) := of_decide_eq_true (by assumption); omega)
  have hx4 : ∀ h : 0 < a0.size, ((a0[0]'h).toNat : Int) = bt a0 0 := bt_at a0 0
  clear p4
  have qi4 : (0 < (a0.size : Int)) = True := eq_true (of_decide_eq_true (by assumption))
  replace q4 := eq_true q4
  refine start_ (n := 7) (S := fun w' => True) (ds := []) #[false, false, false, false, false, false, false] (by kernel_rfl) rfl rfl trivial (fun hHeld => ?_)
  generalize w7.drew = w8 at BK108 HB hHeld ⊢
  refine pure_ (i := 0) (N := some 15) (v := ?_) (a' := ?_) #[true, false, false, false, false, false, false] rfl rfl (by kernel_rfl) (fun _ _ _ h => h) (Or.inl ⟨by rfl, ?_⟩) ?_ ?_
  rotate_left
  ·intro w'
   go_simp
   with_reducible rfl
  rotate_left
  ·simp only [Act.put, List.setIfInBounds_toArray, List.set_cons_zero, List.set_cons_succ, i64_w, i32_w]
   rfl
  refine pure_ (i := 1) (N := some 16) (v := ?_) (a' := ?_) #[true, true, false, false, false, false, false] rfl rfl (by kernel_rfl) (fun _ _ _ h => h) (Or.inl ⟨by rfl, ?_⟩) ?_ ?_
  rotate_left
  ·intro w'
   go_simp
   with_reducible rfl
  rotate_left
  ·simp only [Act.put, List.setIfInBounds_toArray, List.set_cons_zero, List.set_cons_succ, i64_w, i32_w]
   rfl
  refine take_ (i := 2) (N := some 17) (v := ?_) (a' := ?_) #[true, true, true, false, false, false, false] rfl rfl (by kernel_rfl) (fun _ _ _ h => h) (Or.inl ⟨by rfl, ?_⟩) hHeld ?_ ?_
  rotate_left
  ·intro w' _
   go_simp
   with_reducible rfl
  rotate_left
  ·simp only [Act.put, List.setIfInBounds_toArray, List.set_cons_zero, List.set_cons_succ, i64_w, i32_w]
   rfl
  refine pure_ (i := 3) (N := some 18) (v := ?_) (a' := ?_) #[true, true, true, true, false, false, false] rfl rfl (by kernel_rfl) (fun _ _ _ h => h) (Or.inl ⟨by rfl, ?_⟩) ?_ ?_
  rotate_left
  ·intro w'
   go_simp
   with_reducible rfl
  rotate_left
  ·simp only [Act.put, List.setIfInBounds_toArray, List.set_cons_zero, List.set_cons_succ, i64_w, i32_w]
   rfl
  refine one_ (i := 4) (N := some 7) #[true, true, true, true, true, false, false] rfl rfl (by kernel_rfl) (by decide) (fun K hK => ?_)
  refine box_step ?hg (N := 7) ?hd (cs := #[.int .i64 0, .string (⟨#[]⟩ : ByteArray), .slice none 0 0, .bool false, .slice none 0 0]) (t := 30) ?hr ?_; (case hd => rfl); (case hg => rfl); (case hr => first | (go_simp; done) | (go_simp; rfl))
  intro gb109 hg w9 hbox hb
  have n0_ := Aside0.mk (blk_below (g := gb108) (o := .cells #[.int .i64 0, .string (⟨#[]⟩ : ByteArray), .slice none 0 0, .bool false, .slice none 0 0] 30 (0, 0)) (by (with_reducible repeat (first | refine blk_drewN ?_ _ | refine blk_drew ?_ | refine blk_alloc ?_ _)); exact BK108.out) hb)
  have n1_ := Aside0.mk (below_step (by repeat (first | (with_reducible first | exact HB.out | apply below_alloc | apply pw_below_drewN | apply below_drew1 | refine below_set ?_ GE108.out) | exact HB.out)) hb)
  have n2_ := Aside0.mk (hbox)
  have n3_ := Aside0.mk ((by rw [hg]; exact (below_size (by repeat (first | (with_reducible first | exact HB.out | apply below_alloc | apply pw_below_drewN | apply below_drew1 | refine below_set ?_ GE108.out) | exact HB.out))) : w.heap.size ≤ gb109))
  have n4_ := Aside0.mk ((by rw [hg]; exact (below_size (by repeat (first | (with_reducible first | exact HB.out | apply below_alloc | apply pw_below_drewN | apply below_drew1 | refine below_set ?_ GE108.out) | exact HB.out))) : w.heap.size ≤ gb109))
  have n5_ := Aside0.mk ((by rw [hg]; exact Nat.ne_of_lt (blk_lt (g := gb108) (o := .cells #[.int .i64 0, .string (⟨#[]⟩ : ByteArray), .slice none 0 0, .bool false, .slice none 0 0] 30 (0, 0)) (by (with_reducible repeat (first | refine blk_drewN ?_ _ | refine blk_drew ?_ | refine blk_alloc ?_ _)); exact BK108.out)) : gb108 ≠ gb109))
  have n6_ := Aside0.mk ((by rw [hg]; exact Nat.ne_of_gt (blk_lt (g := gb108) (o := .cells #[.int .i64 0, .string (⟨#[]⟩ : ByteArray), .slice none 0 0, .bool false, .slice none 0 0] 30 (0, 0)) (by (with_reducible repeat (first | refine blk_drewN ?_ _ | refine blk_drew ?_ | refine blk_alloc ?_ _)); exact BK108.out)) : gb109 ≠ gb108))
  clear BK108
  clear HB
  have BK108 := n0_
  have HB := n1_
  have BK109 := n2_
  have GW109 := n3_
  have GE109 := n4_
  have NB108_109 := n5_
  have NB109_108 := n6_
  clear n0_ n1_ n2_ n3_ n4_ n5_ n6_
  clear hb hbox hg
  refine hK.out _ _ trivial (fun hHeld => ?_)
  clear hK K
  refine norm_ (a' := ?_) ?_ ?_
  rotate_left
  ·show Act.put _ (some 7) _ = _
   simp only [Act.put, List.setIfInBounds_toArray, List.set_cons_zero, List.set_cons_succ, i64_w, i32_w]
   rfl
  refine one_ (i := 5) (N := none) #[true, true, true, true, true, true, false] rfl rfl (by kernel_rfl) (by decide) (fun K hK => ?_)
  have hs10 : w9.cell? ⟨gb109, 0, none⟩ = some (.int .i64 0) := (blk_cell BK109.out 0).trans rfl
  have hfs10 := blk_frozen BK109.out 0
  have hns10_0 := NB108_109.out
  have hms10_0 := NB109_108.out
  have hs11 : w9.cell? ⟨gb109, 1, none⟩ = some (.string (⟨#[]⟩ : ByteArray)) := (blk_cell BK109.out 1).trans rfl
  have hfs11 := blk_frozen BK109.out 1
  have hns11_0 := NB108_109.out
  have hms11_0 := NB109_108.out
  have hs12 : w9.cell? ⟨gb109, 2, none⟩ = some (.slice none 0 0) := (blk_cell BK109.out 2).trans rfl
  have hfs12 := blk_frozen BK109.out 2
  have hns12_0 := NB108_109.out
  have hms12_0 := NB109_108.out
  have hs13 : w9.cell? ⟨gb109, 3, none⟩ = some (.bool false) := (blk_cell BK109.out 3).trans rfl
  have hfs13 := blk_frozen BK109.out 3
  have hns13_0 := NB108_109.out
  have hms13_0 := NB109_108.out
  have hs14 : w9.cell? ⟨gb109, 4, none⟩ = some (.slice none 0 0) := (blk_cell BK109.out 4).trans rfl
  have hfs14 := blk_frozen BK109.out 4
  have hns14_0 := NB108_109.out
  have hms14_0 := NB109_108.out
  refine skip_ (w1 := ?_) (by rfl) rfl ?_ ?_
  rotate_left
  ·go_simp
   rfl
  refine hK.out _ _ trivial (fun hHeld => ?_)
  clear hK K
  refine pure_ (i := 6) (N := some 8) (v := ?_) (a' := ?_) #[true, true, true, true, true, true, true] rfl rfl (by kernel_rfl) (fun _ _ _ h => h) (Or.inl ⟨by rfl, ?_⟩) ?_ ?_
  rotate_left
  ·intro w'
   go_simp
   with_reducible rfl
  rotate_left
  ·simp only [Act.put, List.setIfInBounds_toArray, List.set_cons_zero, List.set_cons_succ, i64_w, i32_w]
   rfl
  refine done_ (by kernel_rfl) ?_
  have p5 : 0 ≤ (0 : Int) := (by omega)
  have q5 : 0 < a0.size := (by have : (0 : Int) < (a0.size : Int) := of_decide_eq_true (by assumption); omega)
  have hx5 : ∀ h : 0 < a0.size, ((a0[0]'h).toNat : Int) = bt a0 0 := bt_at a0 0
  clear p5
  have qi5 : (0 < (a0.size : Int)) = True := eq_true (of_decide_eq_true (by assumption))
  replace q5 := eq_true q5
  go_upto_if 21 with (fail)
  go_cut [] (fun wc => ∃ (kq : Nat) (x110000_5 : Int), Aside0 (spec_fjList.j0 kq a0 a1 (((bt a0 0) + 2) % 256) x110000_5 (⟨#[]⟩ : ByteArray) false = some (r1, r2, r3, r4, r5, r6, r7)) ∧ Aside0 (kq ≤ k) ∧ Aside0 (wc.heap[gb108]? = some (.cells #[.int .i64 0, .string (⟨#[]⟩ : ByteArray), (.slice none 0 0), .bool false, (.slice none 0 0)] 30 (0, 0))) ∧ Aside0 (wc.heap[gb109]? = some (.cells #[.int .i64 x110000_5, .string (⟨#[]⟩ : ByteArray), (.slice none 0 0), .bool false, (.slice none 0 0)] 30 (0, 0))) ∧ Aside0 (Below w.heap.size w wc))
  case first =>
   have H := HC6.out
   clear HC6
   by_cases c15 : (bt a0 0) = 123
   ·rw [if_pos c15] at H
    have c15b0 : ((bt a0 0) == 123) = true := beq_iff_eq.mpr c15
    have c15b1 : ((bt a0 0) != 123) = false := bne_eq_false_iff_eq.mpr c15
    clear c15
    (first | rw [c15b0] | (simp only [i64_w, i32_w]; rw [c15b0]) | rw [c15b1] | skip)
    have H' := Aside0.mk H
    clear H
    have hnb16 := NB109_108.out
    have hnc16 := NB108_109.out
    have hcz17_0 : w9.cell? ⟨gb109, 0, none⟩ = some (.int .i64 0) := (blk_cell BK109.out 0).trans rfl
    have hcz17_1 : w9.cell? ⟨gb109, 1, none⟩ = some (.string (⟨#[]⟩ : ByteArray)) := (blk_cell BK109.out 1).trans rfl
    have hcz17_2 : w9.cell? ⟨gb109, 2, none⟩ = some (.slice none 0 0) := (blk_cell BK109.out 2).trans rfl
    have hcz17_3 : w9.cell? ⟨gb109, 3, none⟩ = some (.bool false) := (blk_cell BK109.out 3).trans rfl
    have hcz17_4 : w9.cell? ⟨gb109, 4, none⟩ = some (.slice none 0 0) := (blk_cell BK109.out 4).trans rfl
    have hfz17_0 := blk_frozen BK109.out 0
    have hfz17_1 := blk_frozen BK109.out 1
    have hfz17_2 := blk_frozen BK109.out 2
    have hfz17_3 := blk_frozen BK109.out 3
    have hfz17_4 := blk_frozen BK109.out 4
    go_wp2
    go_meet
    case rel => exact ⟨_, (6), H', ⟨by first | omega | exact Nat.le_refl _⟩, ⟨by (with_reducible repeat (first | refine blk_drewN ?_ _ | refine blk_drew ?_ | refine blk_alloc ?_ _)); refine blk_far ?_ NB108_109.out _; (with_reducible repeat (first | refine blk_drewN ?_ _ | refine blk_drew ?_ | refine blk_alloc ?_ _)); refine blk_far ?_ NB108_109.out _; (with_reducible repeat (first | refine blk_drewN ?_ _ | refine blk_drew ?_ | refine blk_alloc ?_ _)); refine blk_far ?_ NB108_109.out _; (with_reducible repeat (first | refine blk_drewN ?_ _ | refine blk_drew ?_ | refine blk_alloc ?_ _)); refine blk_far ?_ NB108_109.out _; (with_reducible repeat (first | refine blk_drewN ?_ _ | refine blk_drew ?_ | refine blk_alloc ?_ _)); refine blk_far ?_ NB108_109.out _; (with_reducible repeat (first | refine blk_drewN ?_ _ | refine blk_drew ?_ | refine blk_alloc ?_ _)); refine blk_far ?_ NB108_109.out _; (with_reducible repeat (first | refine blk_drewN ?_ _ | refine blk_drew ?_ | refine blk_alloc ?_ _)); exact BK108.out⟩, ⟨by (with_reducible repeat (first | refine blk_drewN ?_ _ | refine blk_drew ?_ | refine blk_alloc ?_ _)); refine blk_put (cs := #[.int .i64 5, .string (⟨#[]⟩ : ByteArray), .slice none 0 0, .bool false, .slice none 0 0]) ?_ 0 _ rfl; (with_reducible repeat (first | refine blk_drewN ?_ _ | refine blk_drew ?_ | refine blk_alloc ?_ _)); refine blk_put (cs := #[.int .i64 5, .string (⟨#[]⟩ : ByteArray), .slice none 0 0, .bool false, .slice none 0 0]) ?_ 4 _ rfl; (with_reducible repeat (first | refine blk_drewN ?_ _ | refine blk_drew ?_ | refine blk_alloc ?_ _)); refine blk_put (cs := #[.int .i64 5, .string (⟨#[]⟩ : ByteArray), .slice none 0 0, .bool false, .slice none 0 0]) ?_ 3 _ rfl; (with_reducible repeat (first | refine blk_drewN ?_ _ | refine blk_drew ?_ | refine blk_alloc ?_ _)); refine blk_put (cs := #[.int .i64 5, .string (⟨#[]⟩ : ByteArray), .slice none 0 0, .bool false, .slice none 0 0]) ?_ 2 _ rfl; (with_reducible repeat (first | refine blk_drewN ?_ _ | refine blk_drew ?_ | refine blk_alloc ?_ _)); refine blk_put (cs := #[.int .i64 5, .string (⟨#[]⟩ : ByteArray), .slice none 0 0, .bool false, .slice none 0 0]) ?_ 1 _ rfl; (with_reducible repeat (first | refine blk_drewN ?_ _ | refine blk_drew ?_ | refine blk_alloc ?_ _)); refine blk_put (cs := #[.int .i64 0, .string (⟨#[]⟩ : ByteArray), .slice none 0 0, .bool false, .slice none 0 0]) ?_ 0 _ rfl; (with_reducible repeat (first | refine blk_drewN ?_ _ | refine blk_drew ?_ | refine blk_alloc ?_ _)); exact BK109.out⟩, ⟨by repeat (first | (with_reducible first | exact HB.out | apply below_alloc | apply pw_below_drewN | apply below_drew1 | refine below_set ?_ GE108.out | refine below_set ?_ GE109.out) | exact HB.out)⟩⟩
   rw [if_neg c15] at H
   have c15b0 : ((bt a0 0) == 123) = false := beq_eq_false_iff_ne.mpr c15
   have c15b1 : ((bt a0 0) != 123) = true := bne_iff_ne.mpr c15
   (first | rw [c15b0] | (simp only [i64_w, i32_w]; rw [c15b0]) | rw [c15b1] | skip)
   have H' := Aside0.mk H
   clear H
   go_wp2
   go_meet
   case rel => exact ⟨_, (5), H', ⟨by first | omega | exact Nat.le_refl _⟩, ⟨by (with_reducible repeat (first | refine blk_drewN ?_ _ | refine blk_drew ?_ | refine blk_alloc ?_ _)); refine blk_far ?_ NB108_109.out _; (with_reducible repeat (first | refine blk_drewN ?_ _ | refine blk_drew ?_ | refine blk_alloc ?_ _)); refine blk_far ?_ NB108_109.out _; (with_reducible repeat (first | refine blk_drewN ?_ _ | refine blk_drew ?_ | refine blk_alloc ?_ _)); refine blk_far ?_ NB108_109.out _; (with_reducible repeat (first | refine blk_drewN ?_ _ | refine blk_drew ?_ | refine blk_alloc ?_ _)); refine blk_far ?_ NB108_109.out _; (with_reducible repeat (first | refine blk_drewN ?_ _ | refine blk_drew ?_ | refine blk_alloc ?_ _)); refine blk_far ?_ NB108_109.out _; (with_reducible repeat (first | refine blk_drewN ?_ _ | refine blk_drew ?_ | refine blk_alloc ?_ _)); exact BK108.out⟩, ⟨by (with_reducible repeat (first | refine blk_drewN ?_ _ | refine blk_drew ?_ | refine blk_alloc ?_ _)); refine blk_put (cs := #[.int .i64 5, .string (⟨#[]⟩ : ByteArray), .slice none 0 0, .bool false, .slice none 0 0]) ?_ 4 _ rfl; (with_reducible repeat (first | refine blk_drewN ?_ _ | refine blk_drew ?_ | refine blk_alloc ?_ _)); refine blk_put (cs := #[.int .i64 5, .string (⟨#[]⟩ : ByteArray), .slice none 0 0, .bool false, .slice none 0 0]) ?_ 3 _ rfl; (with_reducible repeat (first | refine blk_drewN ?_ _ | refine blk_drew ?_ | refine blk_alloc ?_ _)); refine blk_put (cs := #[.int .i64 5, .string (⟨#[]⟩ : ByteArray), .slice none 0 0, .bool false, .slice none 0 0]) ?_ 2 _ rfl; (with_reducible repeat (first | refine blk_drewN ?_ _ | refine blk_drew ?_ | refine blk_alloc ?_ _)); refine blk_put (cs := #[.int .i64 5, .string (⟨#[]⟩ : ByteArray), .slice none 0 0, .bool false, .slice none 0 0]) ?_ 1 _ rfl; (with_reducible repeat (first | refine blk_drewN ?_ _ | refine blk_drew ?_ | refine blk_alloc ?_ _)); refine blk_put (cs := #[.int .i64 0, .string (⟨#[]⟩ : ByteArray), .slice none 0 0, .bool false, .slice none 0 0]) ?_ 0 _ rfl; (with_reducible repeat (first | refine blk_drewN ?_ _ | refine blk_drew ?_ | refine blk_alloc ?_ _)); exact BK109.out⟩, ⟨by repeat (first | (with_reducible first | exact HB.out | apply below_alloc | apply pw_below_drewN | apply below_drew1 | refine below_set ?_ GE108.out | refine below_set ?_ GE109.out) | exact HB.out)⟩⟩
  case rest =>
   clear HC6
   try clear c1
   try clear p2
   try clear c3
   try clear c3b0
   try clear c3b1
   try clear c4
   try clear p4
   try clear q4
   try clear hx4
   try clear qi4
   try clear p5
   try clear q5
   try clear hx5
   try clear qi5
   try clear c15
   try clear c15b0
   try clear c15b1
   try clear c16
   try clear hcz17_0
   try clear hcz17_1
   try clear hcz17_2
   try clear hcz17_3
   try clear hcz17_4
   try clear hfz17_0
   try clear hfz17_1
   try clear hfz17_2
   try clear hfz17_3
   try clear hfz17_4
   try clear p4
   try clear p5
   try clear q4
   try clear q5
   obtain ⟨kq, x110000_5, HA, HJ5, BK108, BK109, HB⟩ := hcut
   cases kq with
   | zero => exact absurd HA.out (by simp [spec_fjList.j0])
   | succ kj5 =>
    have H := HA.out
    clear HA
    simp only [spec_fjList.j0] at H
    by_cases c18 : 1 ≤ (a0.size : Int)
    ·rw [if_pos c18] at H
     have c18b0 := eq_true c18
     have c18b1 : decide (1 ≤ (a0.size : Int)) = true := decide_eq_true c18
     clear c18
     obtain ⟨js19, hjs19⟩ : ∃ z_ : ByteArray, (a0.extract 1 a0.size) = z_ := ⟨_, rfl⟩
     replace H : ((spec_skipped.f kj5 js19).bind fun t110 => (if t110.toList = ([] : List UInt8) then (spec_fjList.j1 kj5 t110 a1 (((bt a0 0) + 2) % 256) false x110000_5 (⟨#[]⟩ : ByteArray) false) else (if 0 < (t110.size : Int) then (spec_fjList.j1 kj5 t110 a1 (((bt a0 0) + 2) % 256) ((bt t110 0) == (((bt a0 0) + 2) % 256)) x110000_5 (⟨#[]⟩ : ByteArray) false) else (none)))) = some (r1, r2, r3, r4, r5, r6, r7) := by first | (rw [hjs19] at H; exact H) | (simp only [hjs19] at H ⊢; exact H)
     replace H := Option.bind_eq_some_iff.mp H
     obtain ⟨t110, A200, H⟩ := H
     replace H : (if t110.toList = ([] : List UInt8) then (spec_fjList.j1 kj5 t110 a1 (((bt a0 0) + 2) % 256) false x110000_5 (⟨#[]⟩ : ByteArray) false) else (if 0 < (t110.size : Int) then (spec_fjList.j1 kj5 t110 a1 (((bt a0 0) + 2) % 256) ((bt t110 0) == (((bt a0 0) + 2) % 256)) x110000_5 (⟨#[]⟩ : ByteArray) false) else (none))) = some (r1, r2, r3, r4, r5, r6, r7) := H
     have A20 := Aside0.mk A200
     clear A200
     have HC21 := Aside0.mk H
     clear H
     try have hcs22 := fun W_ : World => run_slice_string_l (P := Tryd.prog) W_ 9 a0 Tryd.underlying9 .i64 1 (by omega) (of_decide_eq_true (by assumption))
     (try simp only [hjs19] at hcs22)
     go_upto_region 5 with (first | ((with_reducible refine gate_callee (f := 26) rfl ?_); refine goesL_ (some 25) rfl rfl Tryd.func26 (by kernel_rfl) rfl #[.string js19] rfl (by (try simp only [List.map_toArray, List.map_cons, List.map_nil]); first | done | rfl | (simp only [List.length_drop, List.length_take]; rfl)) ?_; (with_reducible refine (spec_skipped.calls kj5 js19 t110 _ A20.out).mono ?_); rintro e w' ⟨rfl, ⟨nd, rfl⟩⟩; refine ⟨_, rfl, ?_⟩))
     (try simp only [Act.put, List.setIfInBounds_toArray, List.set_cons_zero, List.set_cons_succ])
     go_cut [33] (fun v33 wc => ∃ (kq : Nat) (x33_20 : Bool), v33 = .bool x33_20 ∧ Aside0 (spec_fjList.j1 kq t110 a1 (((bt a0 0) + 2) % 256) x33_20 x110000_5 (⟨#[]⟩ : ByteArray) false = some (r1, r2, r3, r4, r5, r6, r7)) ∧ Aside0 (kq ≤ kj5) ∧ Aside0 (wc.heap[gb108]? = some (.cells #[.int .i64 0, .string (⟨#[]⟩ : ByteArray), (.slice none 0 0), .bool false, (.slice none 0 0)] 30 (0, 0))) ∧ Aside0 (wc.heap[gb109]? = some (.cells #[.int .i64 x110000_5, .string (⟨#[]⟩ : ByteArray), (.slice none 0 0), .bool false, (.slice none 0 0)] 30 (0, 0))) ∧ Aside0 (Below w.heap.size w wc))
     case first =>
      have H := HC21.out
      clear HC21
      by_cases c23 : t110.toList = ([] : List UInt8)
      ·rw [if_pos c23] at H
       have c23b0 : (t110.toList == ([] : List UInt8)) = true := beq_iff_eq.mpr c23
       have c23b1 : (t110.toList != ([] : List UInt8)) = false := bne_eq_false_iff_eq.mpr c23
       clear c23
       (first | rw [c23b0] | (simp only [i64_w, i32_w]; rw [c23b0]) | rw [c23b1] | skip)
       have H' := Aside0.mk H
       clear H
       go_wp2
       go_meet
       case rel => exact ⟨_, (false), (by first | rfl | (simp; done) | (simp [*]; done)), H', ⟨by have := HJ5.out; first | omega | exact Nat.le_refl _⟩, ⟨by (with_reducible repeat (first | refine blk_drewN ?_ _ | refine blk_drew ?_ | refine blk_alloc ?_ _)); exact BK108.out⟩, ⟨by (with_reducible repeat (first | refine blk_drewN ?_ _ | refine blk_drew ?_ | refine blk_alloc ?_ _)); exact BK109.out⟩, ⟨by repeat (first | (with_reducible first | exact HB.out | apply below_alloc | apply pw_below_drewN | apply below_drew1 | refine below_set ?_ GE108.out | refine below_set ?_ GE109.out) | exact HB.out)⟩⟩
      rw [if_neg c23] at H
      have c23b0 : (t110.toList == ([] : List UInt8)) = false := beq_eq_false_iff_ne.mpr c23
      have c23b1 : (t110.toList != ([] : List UInt8)) = true := bne_iff_ne.mpr c23
      (first | rw [c23b0] | (simp only [i64_w, i32_w]; rw [c23b0]) | rw [c23b1] | skip)
      by_cases c24 : 0 < (t110.size : Int)
      ·rw [if_pos c24] at H
       have c24b0 : decide (0 < (t110.size : Int)) = true := decide_eq_true c24
       have c24b1 : decide (0 < t110.size) = true := decide_eq_true (by omega)
       clear c24
       have H' := Aside0.mk H
       clear H
       have p25 : 0 ≤ (0 : Int) := (by omega)
       have q25 : 0 < t110.size := (by have : (0 : Int) < (t110.size : Int) := of_decide_eq_true (by assumption); omega)
       have hx25 : ∀ h : 0 < t110.size, ((t110[0]'h).toNat : Int) = bt t110 0 := bt_at t110 0
       clear p25
       have qi25 : (0 < (t110.size : Int)) = True := eq_true (of_decide_eq_true (by assumption))
       replace q25 := eq_true q25
       go_wp2
       go_meet
       case rel => exact ⟨_, (((bt t110 0) == (((bt a0 0) + 2) % 256))), (by first | rfl | (simp; done) | (simp [*]; done)), H', ⟨by have := HJ5.out; first | omega | exact Nat.le_refl _⟩, ⟨by (with_reducible repeat (first | refine blk_drewN ?_ _ | refine blk_drew ?_ | refine blk_alloc ?_ _)); exact BK108.out⟩, ⟨by (with_reducible repeat (first | refine blk_drewN ?_ _ | refine blk_drew ?_ | refine blk_alloc ?_ _)); exact BK109.out⟩, ⟨by repeat (first | (with_reducible first | exact HB.out | apply below_alloc | apply pw_below_drewN | apply below_drew1 | refine below_set ?_ GE108.out | refine below_set ?_ GE109.out) | exact HB.out)⟩⟩
      rw [if_neg c24] at H
      exact absurd H (by simp)
     case rest =>
      clear HC21
      try clear c1
      try clear c2
      try clear p2
      try clear q2
      try clear hx2
      try clear qi2
      try clear c3
      try clear c3b0
      try clear c3b1
      try clear c4
      try clear p4
      try clear q4
      try clear hx4
      try clear qi4
      try clear p5
      try clear q5
      try clear hx5
      try clear qi5
      try clear c15
      try clear c15b0
      try clear c15b1
      try clear c16
      try clear c18
      try clear c18b0
      try clear c18b1
      try clear c23
      try clear c23b0
      try clear c23b1
      try clear c24
      try clear c24b0
      try clear c24b1
      try clear p25
      try clear q25
      try clear hx25
      try clear qi25
      try clear hcz17_0
      try clear hcz17_1
      try clear hcz17_2
      try clear hcz17_3
      try clear hcz17_4
      try clear hfz17_0
      try clear hfz17_1
      try clear hfz17_2
      try clear hfz17_3
      try clear hfz17_4
      try clear p2
      try clear p25
      try clear p4
      try clear p5
      try clear q25
      try clear q4
      try clear q5
      obtain ⟨kq, x33_20, rfl, HA, HJ20, BK108, BK109, HB⟩ := hcut
      cases kq with
      | zero => exact absurd HA.out (by simp [spec_fjList.j1])
      | succ kj20 =>
       have H := HA.out
       clear HA
       simp only [spec_fjList.j1] at H
       by_cases c26 : x33_20 = true
       ·subst c26
        have H1 : (if 1 ≤ (t110.size : Int) then (some (x110000_5, (⟨#[]⟩ : ByteArray), ([] : List ByteArray), false, ([] : List (S30)), t110.extract 1 t110.size, true)) else (none)) = some (r1, r2, r3, r4, r5, r6, r7) := by rw [if_pos rfl] at H; exact H
        clear H
        have H := H1
        clear H1
        by_cases c27 : 1 ≤ (t110.size : Int)
        ·rw [if_pos c27] at H
         have c27b0 := eq_true c27
         have c27b1 : decide (1 ≤ (t110.size : Int)) = true := decide_eq_true c27
         clear c27
         simp only [Option.some.injEq, Prod.mk.injEq] at H
         obtain ⟨rfl, rfl, rfl, rfl, rfl, rfl, rfl⟩ := H
         try go_wp2
         have n0_ := Aside0.mk (blk_drew BK108.out)
         have n1_ := Aside0.mk (blk_drew BK109.out)
         have n2_ := Aside0.mk (below_drew1 HB.out)
         clear BK108
         clear BK109
         clear HB
         have BK108 := n0_
         have BK109 := n1_
         have HB := n2_
         clear n0_ n1_ n2_
         refine start_ (n := 6) (S := fun w' => w'.cell? ⟨gb109, 0, none⟩ = some (.int .i64 x110000_5) ∧ w'.cell? ⟨gb109, 1, none⟩ = some (.string (⟨#[]⟩ : ByteArray)) ∧ w'.cell? ⟨gb109, 2, none⟩ = some (.slice none 0 0) ∧ w'.cell? ⟨gb109, 3, none⟩ = some (.bool false) ∧ w'.cell? ⟨gb109, 4, none⟩ = some (.slice none 0 0)) (ds := []) #[false, false, false, false, false, false] (by kernel_rfl) rfl rfl ⟨(blk_cell BK109.out 0).trans rfl, (blk_cell BK109.out 1).trans rfl, (blk_cell BK109.out 2).trans rfl, (blk_cell BK109.out 3).trans rfl, (blk_cell BK109.out 4).trans rfl⟩ (fun hHeld => ?_)
         generalize wc.drew = w28 at BK108 BK109 HB hHeld ⊢
         refine pure_ (i := 1) (N := some 35) (v := ?_) (a' := ?_) #[false, true, false, false, false, false] rfl rfl (by kernel_rfl) (fun _ _ _ h => h) (Or.inl ⟨by rfl, ?_⟩) ?_ ?_
         rotate_left
         ·intro w'
          go_simp
          with_reducible rfl
         rotate_left
         ·simp only [Act.put, List.setIfInBounds_toArray, List.set_cons_zero, List.set_cons_succ, i64_w, i32_w]
          rfl
         refine pure_ (i := 2) (N := some 36) (v := ?_) (a' := ?_) #[false, true, true, false, false, false] rfl rfl (by kernel_rfl) (fun _ _ _ h => h) (Or.inl ⟨by rfl, ?_⟩) ?_ ?_
         rotate_left
         ·intro w'
          go_simp
          with_reducible rfl
         rotate_left
         ·simp only [Act.put, List.setIfInBounds_toArray, List.set_cons_zero, List.set_cons_succ, i64_w, i32_w]
          rfl
         refine take_ (i := 0) (N := some 34) (v := ?_) (a' := ?_) #[true, true, true, false, false, false] rfl rfl (by kernel_rfl) (fun _ _ _ h => h) (Or.inl ⟨by rfl, ?_⟩) hHeld ?_ ?_
         rotate_left
         ·rintro w' ⟨s0, s1, s2, s3, s4⟩
          go_simp
          with_reducible rfl
         rotate_left
         ·simp only [Act.put, List.setIfInBounds_toArray, List.set_cons_zero, List.set_cons_succ, i64_w, i32_w]
          rfl
         refine one_ (i := 3) (N := none) #[true, true, true, true, false, false] rfl rfl (by kernel_rfl) (by decide) (fun K hK => ?_)
         have hs29 : w28.cell? ⟨gb108, 0, none⟩ = some (.int .i64 0) := (blk_cell BK108.out 0).trans rfl
         have hfs29 := blk_frozen BK108.out 0
         have hns29_1 := NB109_108.out
         have hms29_1 := NB108_109.out
         have hs30 : w28.cell? ⟨gb108, 1, none⟩ = some (.string (⟨#[]⟩ : ByteArray)) := (blk_cell BK108.out 1).trans rfl
         have hfs30 := blk_frozen BK108.out 1
         have hns30_1 := NB109_108.out
         have hms30_1 := NB108_109.out
         have hs31 : w28.cell? ⟨gb108, 2, none⟩ = some (.slice none 0 0) := (blk_cell BK108.out 2).trans rfl
         have hfs31 := blk_frozen BK108.out 2
         have hns31_1 := NB109_108.out
         have hms31_1 := NB108_109.out
         have hs32 : w28.cell? ⟨gb108, 3, none⟩ = some (.bool false) := (blk_cell BK108.out 3).trans rfl
         have hfs32 := blk_frozen BK108.out 3
         have hns32_1 := NB109_108.out
         have hms32_1 := NB108_109.out
         have hs33 : w28.cell? ⟨gb108, 4, none⟩ = some (.slice none 0 0) := (blk_cell BK108.out 4).trans rfl
         have hfs33 := blk_frozen BK108.out 4
         have hns33_1 := NB109_108.out
         have hms33_1 := NB108_109.out
         refine skip_ (w1 := ?_) (by rfl) rfl ?_ ?_
         rotate_left
         ·go_simp
          rfl
         refine hK.out _ _ ⟨((cell_far (p := ⟨gb108, _, none⟩) NB109_108.out _).trans (((cell_far (p := ⟨gb108, _, none⟩) NB109_108.out _).trans (((cell_far (p := ⟨gb108, _, none⟩) NB109_108.out _).trans (((cell_far (p := ⟨gb108, _, none⟩) NB109_108.out _).trans (((cell_far (p := ⟨gb108, _, none⟩) NB109_108.out _).trans (hHeld.1)))))))))), ((cell_far (p := ⟨gb108, _, none⟩) NB109_108.out _).trans (((cell_far (p := ⟨gb108, _, none⟩) NB109_108.out _).trans (((cell_far (p := ⟨gb108, _, none⟩) NB109_108.out _).trans (((cell_far (p := ⟨gb108, _, none⟩) NB109_108.out _).trans (((cell_far (p := ⟨gb108, _, none⟩) NB109_108.out _).trans (hHeld.2.1)))))))))), ((cell_far (p := ⟨gb108, _, none⟩) NB109_108.out _).trans (((cell_far (p := ⟨gb108, _, none⟩) NB109_108.out _).trans (((cell_far (p := ⟨gb108, _, none⟩) NB109_108.out _).trans (((cell_far (p := ⟨gb108, _, none⟩) NB109_108.out _).trans (((cell_far (p := ⟨gb108, _, none⟩) NB109_108.out _).trans (hHeld.2.2.1)))))))))), ((cell_far (p := ⟨gb108, _, none⟩) NB109_108.out _).trans (((cell_far (p := ⟨gb108, _, none⟩) NB109_108.out _).trans (((cell_far (p := ⟨gb108, _, none⟩) NB109_108.out _).trans (((cell_far (p := ⟨gb108, _, none⟩) NB109_108.out _).trans (((cell_far (p := ⟨gb108, _, none⟩) NB109_108.out _).trans (hHeld.2.2.2.1)))))))))), ((cell_far (p := ⟨gb108, _, none⟩) NB109_108.out _).trans (((cell_far (p := ⟨gb108, _, none⟩) NB109_108.out _).trans (((cell_far (p := ⟨gb108, _, none⟩) NB109_108.out _).trans (((cell_far (p := ⟨gb108, _, none⟩) NB109_108.out _).trans (((cell_far (p := ⟨gb108, _, none⟩) NB109_108.out _).trans (hHeld.2.2.2.2))))))))))⟩ (fun hHeld => ?_)
         clear hK K
         refine pure_ (i := 4) (N := some 5) (v := ?_) (a' := ?_) #[true, true, true, true, true, false] rfl rfl (by kernel_rfl) (fun _ _ _ h => h) (Or.inl ⟨by rfl, ?_⟩) ?_ ?_
         rotate_left
         ·intro w'
          go_simp
          with_reducible rfl
         rotate_left
         ·simp only [Act.put, List.setIfInBounds_toArray, List.set_cons_zero, List.set_cons_succ, i64_w, i32_w]
          rfl
         refine pure_ (i := 5) (N := some 6) (v := ?_) (a' := ?_) #[true, true, true, true, true, true] rfl rfl (by kernel_rfl) (fun _ _ _ h => h) (Or.inl ⟨by rfl, ?_⟩) ?_ ?_
         rotate_left
         ·intro w'
          go_simp
          with_reducible rfl
         rotate_left
         ·simp only [Act.put, List.setIfInBounds_toArray, List.set_cons_zero, List.set_cons_succ, i64_w, i32_w]
          rfl
         refine done_ (by kernel_rfl) ?_
         try go_wp2
         refine bodyPost_ret (results_ctt rfl _ _ gb108 30 #[.int .i64 x110000_5, .string (⟨#[]⟩ : ByteArray), .slice none 0 0, .bool false, .slice none 0 0] (0, 0) _ rfl (by (with_reducible repeat (first | refine blk_drewN ?_ _ | refine blk_drew ?_ | refine blk_alloc ?_ _)); refine blk_put (cs := #[.int .i64 x110000_5, .string (⟨#[]⟩ : ByteArray), .slice none 0 0, .bool false, .slice none 0 0]) ?_ 4 _ rfl; (with_reducible repeat (first | refine blk_drewN ?_ _ | refine blk_drew ?_ | refine blk_alloc ?_ _)); refine blk_put (cs := #[.int .i64 x110000_5, .string (⟨#[]⟩ : ByteArray), .slice none 0 0, .bool false, .slice none 0 0]) ?_ 3 _ rfl; (with_reducible repeat (first | refine blk_drewN ?_ _ | refine blk_drew ?_ | refine blk_alloc ?_ _)); refine blk_put (cs := #[.int .i64 x110000_5, .string (⟨#[]⟩ : ByteArray), .slice none 0 0, .bool false, .slice none 0 0]) ?_ 2 _ rfl; (with_reducible repeat (first | refine blk_drewN ?_ _ | refine blk_drew ?_ | refine blk_alloc ?_ _)); refine blk_put (cs := #[.int .i64 x110000_5, .string (⟨#[]⟩ : ByteArray), .slice none 0 0, .bool false, .slice none 0 0]) ?_ 1 _ rfl; (with_reducible repeat (first | refine blk_drewN ?_ _ | refine blk_drew ?_ | refine blk_alloc ?_ _)); refine blk_put (cs := #[.int .i64 0, .string (⟨#[]⟩ : ByteArray), .slice none 0 0, .bool false, .slice none 0 0]) ?_ 0 _ rfl; (with_reducible repeat (first | refine blk_drewN ?_ _ | refine blk_drew ?_ | refine blk_alloc ?_ _)); exact BK108.out) Tryd.underlying30 rfl (by kernel_rfl)) rfl ?_
         exact ⟨_, _, by first | rfl | (simp [errW_none, errW_some] <;> rfl) | (simp [*, errW_none, errW_some] <;> rfl) | (simp [errW_none, errW_some] <;> exact ⟨rfl, rfl⟩) | (simp [*, errW_none, errW_some] <;> exact ⟨rfl, rfl⟩), by first | exact Kd.R_nil _ _ _ _ _ | exact Kd.N_nil _ _ _ _ _ | exact Kd.V_nil _ _ _ _ _ | exact Kd.Q_nil _ _ _ _ _ | exact Kd.S_nil _ _ _ _ _, by first | exact Kd.R_nil _ _ _ _ _ | exact Kd.N_nil _ _ _ _ _ | exact Kd.V_nil _ _ _ _ _ | exact Kd.Q_nil _ _ _ _ _ | exact Kd.S_nil _ _ _ _ _, by repeat (first | (with_reducible first | exact HB.out | apply below_alloc | apply pw_below_drewN | apply below_drew1 | refine below_set ?_ GE108.out | refine below_set ?_ GE109.out) | exact HB.out)⟩
        rw [if_neg c27] at H
        exact absurd H (by simp)
       replace c26 := Bool.eq_false_iff.mpr c26
       subst c26
       have H1 : (spec_fjList.l0 kj20 t110 a1 (((bt a0 0) + 2) % 256) x110000_5 (⟨#[]⟩ : ByteArray) ([] : List ByteArray) false ([] : List (S30))) = some (r1, r2, r3, r4, r5, r6, r7) := by rw [if_neg (show ¬ (false = true) by decide)] at H; exact H
       clear H
       have H := H1
       clear H1
       have H' := Aside0.mk H
       clear H
       go_wp2
       try simp only [Act.put, List.setIfInBounds_toArray, List.set_cons_succ, List.set_cons_zero]
       go_loopg [0] kj20 (fun kq v0 w' => ∃ (x0_3 : ByteArray) (x109000_3 : Int) (x109001_3 : ByteArray) (x109003_3 : Bool) (x110002_3 : List ByteArray) (x110004_3 : List (S30)) (u110002 : Value) (u110004 : Value), v0 = .string x0_3 ∧ Aside0 (spec_fjList.l0 kq x0_3 a1 (((bt a0 0) + 2) % 256) x110000_5 (⟨#[]⟩ : ByteArray) x110002_3 false x110004_3 = some (r1, r2, r3, r4, r5, r6, r7)) ∧ Aside0 (kq ≤ kj20) ∧ Aside0 (Kd.R Kd.string 9 w' w.heap.size (fun _ => True) u110002 x110002_3) ∧ Aside0 (Kd.R k30 30 w' w.heap.size (fun k_ => some k_ ≠ (u110002 : Value).ownBlock ∧ k_ ≠ gb108 ∧ k_ ≠ gb109) u110004 x110004_3) ∧ Aside0 (w'.heap[gb108]? = some (.cells #[.int .i64 x109000_3, .string x109001_3, (.slice none 0 0), .bool x109003_3, (.slice none 0 0)] 30 (0, 0))) ∧ Aside0 (w'.heap[gb109]? = some (.cells #[.int .i64 x110000_5, .string (⟨#[]⟩ : ByteArray), u110002, .bool false, u110004] 30 (0, 0))) ∧ Aside0 (Below w.heap.size w w'))
       case atStart => exact ⟨(t110), (0), ((⟨#[]⟩ : ByteArray)), (false), (([] : List ByteArray)), (([] : List (S30))), (.slice none 0 0), (.slice none 0 0), (by first | rfl | (simp; done) | (simp [*]; done)), H', ⟨Nat.le_refl _⟩, ⟨by first | exact Kd.R_nil _ _ _ _ _ | exact Kd.N_nil _ _ _ _ _ | exact Kd.V_nil _ _ _ _ _ | exact Kd.Q_nil _ _ _ _ _ | exact Kd.S_nil _ _ _ _ _⟩, ⟨by first | exact Kd.R_nil _ _ _ _ _ | exact Kd.N_nil _ _ _ _ _ | exact Kd.V_nil _ _ _ _ _ | exact Kd.Q_nil _ _ _ _ _ | exact Kd.S_nil _ _ _ _ _⟩, ⟨by (with_reducible repeat (first | refine blk_drewN ?_ _ | refine blk_drew ?_ | refine blk_alloc ?_ _)); exact BK108.out⟩, ⟨by (with_reducible repeat (first | refine blk_drewN ?_ _ | refine blk_drew ?_ | refine blk_alloc ?_ _)); exact BK109.out⟩, ⟨by repeat (first | (with_reducible first | exact HB.out | apply below_alloc | apply pw_below_drewN | apply below_drew1 | refine below_set ?_ GE108.out | refine below_set ?_ GE109.out) | exact HB.out)⟩⟩
       case round =>
        clear H'
        try clear c1
        try clear c2
        try clear p2
        try clear q2
        try clear hx2
        try clear qi2
        try clear c3
        try clear c3b0
        try clear c3b1
        try clear c4
        try clear p4
        try clear q4
        try clear hx4
        try clear qi4
        try clear p5
        try clear q5
        try clear hx5
        try clear qi5
        try clear c15
        try clear c15b0
        try clear c15b1
        try clear c16
        try clear c18
        try clear c18b0
        try clear c18b1
        try clear c23
        try clear c23b0
        try clear c23b1
        try clear c24
        try clear c24b0
        try clear c24b1
        try clear p25
        try clear q25
        try clear hx25
        try clear qi25
        try clear c26
        try clear c27
        try clear c27b0
        try clear c27b1
        try clear hcz17_0
        try clear hcz17_1
        try clear hcz17_2
        try clear hcz17_3
        try clear hcz17_4
        try clear hfz17_0
        try clear hfz17_1
        try clear hfz17_2
        try clear hfz17_3
        try clear hfz17_4
        try clear p2
        try clear p25
        try clear p4
        try clear p5
        try clear q2
        try clear q25
        try clear q4
        try clear q5
        obtain ⟨x0_3, x109000_3, x109001_3, x109003_3, x110002_3, x110004_3, u110002, u110004, rfl, HA, HK3, HO_110002, HO_110004, BK108, BK109, HB⟩ := hrel
        cases gk with
        | zero => exact absurd HA.out (by simp [spec_fjList.l0])
        | succ k3 =>
         have H := HA.out
         clear HA
         simp only [spec_fjList.l0] at H
         have HC34 := Aside0.mk H
         clear H
         have hnb35 := NB109_108.out
         have hnc35 := NB108_109.out
         have hcz36_0 : wr.cell? ⟨gb109, 0, none⟩ = some (.int .i64 x110000_5) := (blk_cell BK109.out 0).trans rfl
         have hcz36_1 : wr.cell? ⟨gb109, 1, none⟩ = some (.string (⟨#[]⟩ : ByteArray)) := (blk_cell BK109.out 1).trans rfl
         have hcz36_2 : wr.cell? ⟨gb109, 2, none⟩ = some (u110002) := (blk_cell BK109.out 2).trans rfl
         have hcz36_3 : wr.cell? ⟨gb109, 3, none⟩ = some (.bool false) := (blk_cell BK109.out 3).trans rfl
         have hcz36_4 : wr.cell? ⟨gb109, 4, none⟩ = some (u110004) := (blk_cell BK109.out 4).trans rfl
         have hfz36_0 := blk_frozen BK109.out 0
         have hfz36_1 := blk_frozen BK109.out 1
         have hfz36_2 := blk_frozen BK109.out 2
         have hfz36_3 := blk_frozen BK109.out 3
         have hfz36_4 := blk_frozen BK109.out 4
         go_upto_if 39 with (fail)
         go_cut [0] (fun v0 wc => ∃ (kq : Nat) (x0_33 : ByteArray) (x109000_33 : Int) (x109001_33 : ByteArray) (x109003_33 : Bool) (x110002_33 : List ByteArray) (u110002 : Value), v0 = .string x0_33 ∧ Aside0 (spec_fjList.j3 kq x0_33 a1 (((bt a0 0) + 2) % 256) x110000_5 (⟨#[]⟩ : ByteArray) x110002_33 false x110004_3 = some (r1, r2, r3, r4, r5, r6, r7)) ∧ Aside0 (kq ≤ k3) ∧ Aside0 (Kd.R Kd.string 9 wc w.heap.size (fun _ => True) u110002 x110002_33) ∧ Aside0 (Kd.R k30 30 wc w.heap.size (fun k_ => some k_ ≠ (u110002 : Value).ownBlock ∧ k_ ≠ gb108 ∧ k_ ≠ gb109) u110004 x110004_3) ∧ Aside0 (wc.heap[gb108]? = some (.cells #[.int .i64 x109000_33, .string x109001_33, (.slice none 0 0), .bool x109003_33, (.slice none 0 0)] 30 (0, 0))) ∧ Aside0 (wc.heap[gb109]? = some (.cells #[.int .i64 x110000_5, .string (⟨#[]⟩ : ByteArray), u110002, .bool false, u110004] 30 (0, 0))) ∧ Aside0 (Below w.heap.size w wc))
         case first =>
          have H := HC34.out
          clear HC34
          by_cases c37 : x110000_5 = 6
          ·rw [if_pos c37] at H
           have c37b0 : (x110000_5 == 6) = true := beq_iff_eq.mpr c37
           have c37b1 : (x110000_5 != 6) = false := bne_eq_false_iff_eq.mpr c37
           clear c37
           (first | rw [c37b0] | (simp only [i64_w, i32_w]; rw [c37b0]) | rw [c37b1] | skip)
           replace H := Option.bind_eq_some_iff.mp H
           obtain ⟨⟨t111, t112, t113⟩, A380, H⟩ := H
           replace H : (if t113 = true then (if x110002_3.length < 8796093022208 then (spec_fjList.j3 k3 t112 a1 (((bt a0 0) + 2) % 256) x110000_5 (⟨#[]⟩ : ByteArray) (x110002_3 ++ [t111]) false x110004_3) else (none)) else (some (0, (⟨#[]⟩ : ByteArray), ([] : List ByteArray), false, ([] : List (S30)), (⟨#[]⟩ : ByteArray), false))) = some (r1, r2, r3, r4, r5, r6, r7) := H
           have A38 := Aside0.mk A380
           clear A380
           by_cases c39 : t113 = true
           ·subst c39
            have H1 : (if x110002_3.length < 8796093022208 then (spec_fjList.j3 k3 t112 a1 (((bt a0 0) + 2) % 256) x110000_5 (⟨#[]⟩ : ByteArray) (x110002_3 ++ [t111]) false x110004_3) else (none)) = some (r1, r2, r3, r4, r5, r6, r7) := by rw [if_pos rfl] at H; exact H
            clear H
            have H := H1
            clear H1
            by_cases c40 : x110002_3.length < 8796093022208
            ·rw [if_pos c40] at H
             have LMc40 := Aside0.mk c40
             clear c40
             obtain ⟨y114, hy114⟩ : ∃ y_ : List ByteArray, y_ = (x110002_3 ++ [t111]) := ⟨_, rfl⟩
             replace H : (spec_fjList.j3 k3 t112 a1 (((bt a0 0) + 2) % 256) x110000_5 (⟨#[]⟩ : ByteArray) y114 false x110004_3) = some (r1, r2, r3, r4, r5, r6, r7) := by first | (rw [hy114]; with_reducible exact H) | (have H2_ := (Option.bind_some _ _).symm.trans H; rw [hy114]; with_reducible exact H2_) | (have H2_ := (Option.bind_some _ _).symm.trans H; with_reducible exact H2_) | with_reducible exact H | (rw [hy114]; exact H) | exact H
             have Ny114 := Aside0.mk hy114
             clear hy114
             have H' := Aside0.mk H
             clear H
             go_wp2_with (first | ((with_reducible refine gate_callee (f := 66) rfl ?_); refine goesL_ (some 42) rfl rfl Tryd.func66 (by kernel_rfl) rfl #[.string x0_3] rfl (by (try simp only [List.map_toArray, List.map_cons, List.map_nil]); first | done | rfl | (simp only [List.length_drop, List.length_take]; rfl)) ?_; (with_reducible refine (spec_fjName.calls k3 x0_3 t111 t112 true _ A38.out).mono ?_); rintro e w' ⟨rfl, ⟨nd, rfl⟩⟩; refine ⟨_, rfl, ?_⟩; (try (rw [drewN_self wr]; generalize hq_ : World.drewN wr _ = wr; have n0_ : Aside0 (Kd.R Kd.string 9 wr w.heap.size (fun _ => True) u110002 x110002_3) := ⟨by rw [← hq_]; exact (by (with_reducible repeat (first | apply Kd.R_alloc | apply Kd.R_drewN | apply Kd.R_drew)); exact HO_110002.out)⟩; have n1_ : Aside0 (Kd.R k30 30 wr w.heap.size (fun k_ => some k_ ≠ (u110002 : Value).ownBlock ∧ k_ ≠ gb108 ∧ k_ ≠ gb109) u110004 x110004_3) := ⟨by rw [← hq_]; exact (by (with_reducible repeat (first | apply Kd.R_alloc | apply Kd.R_drewN | apply Kd.R_drew)); exact HO_110004.out)⟩; have n2_ : Aside0 (wr.heap[gb108]? = some (.cells #[.int .i64 x109000_3, .string x109001_3, .slice none 0 0, .bool x109003_3, .slice none 0 0] 30 (0, 0))) := ⟨by rw [← hq_]; exact (by (with_reducible repeat (first | refine blk_drewN ?_ _ | refine blk_drew ?_ | refine blk_alloc ?_ _)); exact BK108.out)⟩; have n3_ : Aside0 (wr.heap[gb109]? = some (.cells #[.int .i64 x110000_5, .string (⟨#[]⟩ : ByteArray), u110002, .bool false, u110004] 30 (0, 0))) := ⟨by rw [← hq_]; exact (by (with_reducible repeat (first | refine blk_drewN ?_ _ | refine blk_drew ?_ | refine blk_alloc ?_ _)); exact BK109.out)⟩; have n4_ : Aside0 (Below w.heap.size w wr) := ⟨by rw [← hq_]; exact (by repeat (first | (with_reducible first | exact HB.out | apply below_alloc | apply pw_below_drewN | apply below_drew1 | refine below_set ?_ GE108.out | refine below_set ?_ GE109.out) | exact HB.out))⟩; clear HO_110002 HO_110004 BK108 BK109 HB hq_; have HO_110002 := n0_; have HO_110004 := n1_; have BK108 := n2_; have BK109 := n3_; have HB := n4_; clear n0_ n1_ n2_ n3_ n4_)); have hnb41 := NB109_108.out; have hnc41 := NB108_109.out; have hcz42_0 : wr.cell? ⟨gb109, 0, none⟩ = some (.int .i64 x110000_5) := (blk_cell BK109.out 0).trans rfl; have hcz42_1 : wr.cell? ⟨gb109, 1, none⟩ = some (.string (⟨#[]⟩ : ByteArray)) := (blk_cell BK109.out 1).trans rfl; have hcz42_2 : wr.cell? ⟨gb109, 2, none⟩ = some (u110002) := (blk_cell BK109.out 2).trans rfl; have hcz42_3 : wr.cell? ⟨gb109, 3, none⟩ = some (.bool false) := (blk_cell BK109.out 3).trans rfl; have hcz42_4 : wr.cell? ⟨gb109, 4, none⟩ = some (u110004) := (blk_cell BK109.out 4).trans rfl; have hfz42_0 := blk_frozen BK109.out 0; have hfz42_1 := blk_frozen BK109.out 1; have hfz42_2 := blk_frozen BK109.out 2; have hfz42_3 := blk_frozen BK109.out 3; have hfz42_4 := blk_frozen BK109.out 4) | ((with_reducible refine gate_builtin (b := .append) (xs := #[.tmp 50, .tmp 52]) rfl ?_); at_builtin; refine Kd.R_append Kd.string (w0 := w) w.heap.size rfl (.tmp 50) (.tmp 52) 27 9 (.string ⟨#[]⟩) 16 rfl Tryd.underlying27 info9 rfl (by decide) (by omega) u110002 x110002_3 t111 [.string t111] (fun _ => True) (fun _ => False) rfl rfl ?aP (fun _ hk => hk.elim) ?aF ?aO ?aB ?aS ?aL ?_; (case aP => exact rfl); (case aB => exact (by repeat (first | (with_reducible first | exact HB.out | apply below_alloc | apply pw_below_drewN | apply below_drew1 | refine below_set ?_ GE108.out | refine below_set ?_ GE109.out) | exact HB.out))); (case aF => exact (fun _ _ => trivial)); (case aO => exact (by (with_reducible repeat (first | apply Kd.R_alloc | apply Kd.R_drewN | apply Kd.R_drew)); exact HO_110002.out)); (case aS => exact (below_size (by repeat (first | (with_reducible first | exact HB.out | apply below_alloc | apply pw_below_drewN | apply below_drew1 | refine below_set ?_ GE108.out | refine below_set ?_ GE109.out) | exact HB.out)))); (case aL => have := LMc40.out; omega); intro v115 w43 ho hb hg hat; rw [← Ny114.out] at ho; have n0_ := Aside0.mk (Kd.R_after (ok := (fun k_ => k_ ≠ gb108 ∧ k_ ≠ gb109)) (by (with_reducible repeat (first | apply Kd.R_alloc | apply Kd.R_drewN | apply Kd.R_drew)); exact Kd.R_mono HO_110004.out (fun _ hk => ⟨⟨hk.2.1, hk.2.2⟩, hk.1⟩)) hg hat); have n1_ := Aside0.mk (blk_grown (g := gb108) (o := .cells #[.int .i64 x109000_3, .string x109001_3, .slice none 0 0, .bool x109003_3, .slice none 0 0] 30 (0, 0)) (by (with_reducible repeat (first | refine blk_drewN ?_ _ | refine blk_drew ?_ | refine blk_alloc ?_ _)); exact BK108.out) hg (Kd.R_ne HO_110002.out BK108.out (by decide))); have n2_ := Aside0.mk (blk_grown (g := gb109) (o := .cells #[.int .i64 x110000_5, .string (⟨#[]⟩ : ByteArray), u110002, .bool false, u110004] 30 (0, 0)) (by (with_reducible repeat (first | refine blk_drewN ?_ _ | refine blk_drew ?_ | refine blk_alloc ?_ _)); exact BK109.out) hg (Kd.R_ne HO_110002.out BK109.out (by decide))); have n3_ := Aside0.mk (hb); have n4_ := Aside0.mk (ho); clear HO_110004; clear BK108; clear BK109; clear HB; clear HO_110002; have HO_110004 := n0_; have BK108 := n1_; have BK109 := n2_; have HB := n3_; have HO116 := n4_; clear n0_ n1_ n2_ n3_ n4_; clear ho hb hg hat; obtain ⟨Ao44, co44, eo44⟩ := Kd.R_slice HO116.out; subst eo44; have hcz45_0 : w43.cell? ⟨gb109, 0, none⟩ = some (.int .i64 x110000_5) := (blk_cell BK109.out 0).trans rfl; have hcz45_1 : w43.cell? ⟨gb109, 1, none⟩ = some (.string (⟨#[]⟩ : ByteArray)) := (blk_cell BK109.out 1).trans rfl; have hcz45_2 : w43.cell? ⟨gb109, 2, none⟩ = some (u110002) := (blk_cell BK109.out 2).trans rfl; have hcz45_3 : w43.cell? ⟨gb109, 3, none⟩ = some (.bool false) := (blk_cell BK109.out 3).trans rfl; have hcz45_4 : w43.cell? ⟨gb109, 4, none⟩ = some (u110004) := (blk_cell BK109.out 4).trans rfl; have hfz45_0 := blk_frozen BK109.out 0; have hfz45_1 := blk_frozen BK109.out 1; have hfz45_2 := blk_frozen BK109.out 2; have hfz45_3 := blk_frozen BK109.out 3; have hfz45_4 := blk_frozen BK109.out 4))
             go_meet
             case rel => exact ⟨_, (t112), (x109000_3), (x109001_3), (x109003_3), (y114), (.slice Ao44 y114.length co44), (by first | rfl | (simp; done) | (simp [*]; done)), H', ⟨by have := HJ5.out; have := HJ20.out; have := HK3.out; first | omega | exact Nat.le_refl _⟩, ⟨by (with_reducible repeat (first | apply Kd.R_alloc | apply Kd.R_drewN | apply Kd.R_drew)); exact Kd.R_mono (Kd.R_far (p := ⟨gb109, 2, none⟩) (Kd.R_types HO116.out BK109.out (by decide)) (fun _ hk => hk.2) (.slice Ao44 y114.length co44)) (fun _ hk => trivial)⟩, ⟨by (with_reducible repeat (first | apply Kd.R_alloc | apply Kd.R_drewN | apply Kd.R_drew)); exact Kd.R_mono (Kd.R_far (p := ⟨gb109, 2, none⟩) (Kd.R_mono HO_110004.out (fun k_ hk => (⟨hk, hk.1.2⟩ : _ ∧ k_ ≠ gb109))) (fun _ hk => hk.2) (.slice Ao44 y114.length co44)) (fun _ hk => ⟨hk.1.2, ⟨hk.1.1.1, hk.1.1.2⟩⟩)⟩, ⟨by (with_reducible repeat (first | refine blk_drewN ?_ _ | refine blk_drew ?_ | refine blk_alloc ?_ _)); refine blk_far ?_ NB108_109.out _; (with_reducible repeat (first | refine blk_drewN ?_ _ | refine blk_drew ?_ | refine blk_alloc ?_ _)); exact BK108.out⟩, ⟨by (with_reducible repeat (first | refine blk_drewN ?_ _ | refine blk_drew ?_ | refine blk_alloc ?_ _)); refine blk_put (cs := #[.int .i64 x110000_5, .string (⟨#[]⟩ : ByteArray), u110002, .bool false, u110004]) ?_ 2 _ rfl; (with_reducible repeat (first | refine blk_drewN ?_ _ | refine blk_drew ?_ | refine blk_alloc ?_ _)); exact BK109.out⟩, ⟨by repeat (first | (with_reducible first | exact HB.out | apply below_alloc | apply pw_below_drewN | apply below_drew1 | refine below_set ?_ GE108.out | refine below_set ?_ GE109.out) | exact HB.out)⟩⟩
            rw [if_neg c40] at H
            exact absurd H (by simp)
           replace c39 := Bool.eq_false_iff.mpr c39
           subst c39
           have H1 : (some (0, (⟨#[]⟩ : ByteArray), ([] : List ByteArray), false, ([] : List (S30)), (⟨#[]⟩ : ByteArray), false)) = some (r1, r2, r3, r4, r5, r6, r7) := by rw [if_neg (show ¬ (false = true) by decide)] at H; exact H
           clear H
           have H := H1
           clear H1
           simp only [Option.some.injEq, Prod.mk.injEq] at H
           obtain ⟨rfl, rfl, rfl, rfl, rfl, rfl, rfl⟩ := H
           go_wp2_with (first | ((with_reducible refine gate_callee (f := 66) rfl ?_); refine goesL_ (some 42) rfl rfl Tryd.func66 (by kernel_rfl) rfl #[.string x0_3] rfl (by (try simp only [List.map_toArray, List.map_cons, List.map_nil]); first | done | rfl | (simp only [List.length_drop, List.length_take]; rfl)) ?_; (with_reducible refine (spec_fjName.calls k3 x0_3 t111 t112 false _ A38.out).mono ?_); rintro e w' ⟨rfl, ⟨nd, rfl⟩⟩; refine ⟨_, rfl, ?_⟩; (try (rw [drewN_self wr]; generalize hq_ : World.drewN wr _ = wr; have n0_ : Aside0 (Kd.R Kd.string 9 wr w.heap.size (fun _ => True) u110002 x110002_3) := ⟨by rw [← hq_]; exact (by (with_reducible repeat (first | apply Kd.R_alloc | apply Kd.R_drewN | apply Kd.R_drew)); exact HO_110002.out)⟩; have n1_ : Aside0 (Kd.R k30 30 wr w.heap.size (fun k_ => some k_ ≠ (u110002 : Value).ownBlock ∧ k_ ≠ gb108 ∧ k_ ≠ gb109) u110004 x110004_3) := ⟨by rw [← hq_]; exact (by (with_reducible repeat (first | apply Kd.R_alloc | apply Kd.R_drewN | apply Kd.R_drew)); exact HO_110004.out)⟩; have n2_ : Aside0 (wr.heap[gb108]? = some (.cells #[.int .i64 x109000_3, .string x109001_3, .slice none 0 0, .bool x109003_3, .slice none 0 0] 30 (0, 0))) := ⟨by rw [← hq_]; exact (by (with_reducible repeat (first | refine blk_drewN ?_ _ | refine blk_drew ?_ | refine blk_alloc ?_ _)); exact BK108.out)⟩; have n3_ : Aside0 (wr.heap[gb109]? = some (.cells #[.int .i64 x110000_5, .string (⟨#[]⟩ : ByteArray), u110002, .bool false, u110004] 30 (0, 0))) := ⟨by rw [← hq_]; exact (by (with_reducible repeat (first | refine blk_drewN ?_ _ | refine blk_drew ?_ | refine blk_alloc ?_ _)); exact BK109.out)⟩; have n4_ : Aside0 (Below w.heap.size w wr) := ⟨by rw [← hq_]; exact (by repeat (first | (with_reducible first | exact HB.out | apply below_alloc | apply pw_below_drewN | apply below_drew1 | refine below_set ?_ GE108.out | refine below_set ?_ GE109.out) | exact HB.out))⟩; clear HO_110002 HO_110004 BK108 BK109 HB hq_; have HO_110002 := n0_; have HO_110004 := n1_; have BK108 := n2_; have BK109 := n3_; have HB := n4_; clear n0_ n1_ n2_ n3_ n4_)); have hnb46 := NB108_109.out; have hnc46 := NB109_108.out; have hcz47_0 : wr.cell? ⟨gb108, 0, none⟩ = some (.int .i64 x109000_3) := (blk_cell BK108.out 0).trans rfl; have hcz47_1 : wr.cell? ⟨gb108, 1, none⟩ = some (.string x109001_3) := (blk_cell BK108.out 1).trans rfl; have hcz47_2 : wr.cell? ⟨gb108, 2, none⟩ = some (.slice none 0 0) := (blk_cell BK108.out 2).trans rfl; have hcz47_3 : wr.cell? ⟨gb108, 3, none⟩ = some (.bool x109003_3) := (blk_cell BK108.out 3).trans rfl; have hcz47_4 : wr.cell? ⟨gb108, 4, none⟩ = some (.slice none 0 0) := (blk_cell BK108.out 4).trans rfl; have hfz47_0 := blk_frozen BK108.out 0; have hfz47_1 := blk_frozen BK108.out 1; have hfz47_2 := blk_frozen BK108.out 2; have hfz47_3 := blk_frozen BK108.out 3; have hfz47_4 := blk_frozen BK108.out 4))
           refine bodyPost_ret (results_ctt rfl _ _ gb108 30 #[.int .i64 0, .string (⟨#[]⟩ : ByteArray), .slice none 0 0, .bool false, .slice none 0 0] (0, 0) _ rfl (by (with_reducible repeat (first | refine blk_drewN ?_ _ | refine blk_drew ?_ | refine blk_alloc ?_ _)); refine blk_put (cs := #[.int .i64 0, .string (⟨#[]⟩ : ByteArray), .slice none 0 0, .bool false, .slice none 0 0]) ?_ 4 _ rfl; (with_reducible repeat (first | refine blk_drewN ?_ _ | refine blk_drew ?_ | refine blk_alloc ?_ _)); refine blk_put (cs := #[.int .i64 0, .string (⟨#[]⟩ : ByteArray), .slice none 0 0, .bool x109003_3, .slice none 0 0]) ?_ 3 _ rfl; (with_reducible repeat (first | refine blk_drewN ?_ _ | refine blk_drew ?_ | refine blk_alloc ?_ _)); refine blk_put (cs := #[.int .i64 0, .string (⟨#[]⟩ : ByteArray), .slice none 0 0, .bool x109003_3, .slice none 0 0]) ?_ 2 _ rfl; (with_reducible repeat (first | refine blk_drewN ?_ _ | refine blk_drew ?_ | refine blk_alloc ?_ _)); refine blk_put (cs := #[.int .i64 0, .string x109001_3, .slice none 0 0, .bool x109003_3, .slice none 0 0]) ?_ 1 _ rfl; (with_reducible repeat (first | refine blk_drewN ?_ _ | refine blk_drew ?_ | refine blk_alloc ?_ _)); refine blk_put (cs := #[.int .i64 x109000_3, .string x109001_3, .slice none 0 0, .bool x109003_3, .slice none 0 0]) ?_ 0 _ rfl; (with_reducible repeat (first | refine blk_drewN ?_ _ | refine blk_drew ?_ | refine blk_alloc ?_ _)); exact BK108.out) Tryd.underlying30 rfl (by kernel_rfl)) rfl ?_
           exact ⟨_, _, by first | rfl | (simp [errW_none, errW_some] <;> rfl) | (simp [*, errW_none, errW_some] <;> rfl) | (simp [errW_none, errW_some] <;> exact ⟨rfl, rfl⟩) | (simp [*, errW_none, errW_some] <;> exact ⟨rfl, rfl⟩), by first | exact Kd.R_nil _ _ _ _ _ | exact Kd.N_nil _ _ _ _ _ | exact Kd.V_nil _ _ _ _ _ | exact Kd.Q_nil _ _ _ _ _ | exact Kd.S_nil _ _ _ _ _, by first | exact Kd.R_nil _ _ _ _ _ | exact Kd.N_nil _ _ _ _ _ | exact Kd.V_nil _ _ _ _ _ | exact Kd.Q_nil _ _ _ _ _ | exact Kd.S_nil _ _ _ _ _, by repeat (first | (with_reducible first | exact HB.out | apply below_alloc | apply pw_below_drewN | apply below_drew1 | refine below_set ?_ GE108.out | refine below_set ?_ GE109.out) | exact HB.out)⟩
          rw [if_neg c37] at H
          have c37b0 : (x110000_5 == 6) = false := beq_eq_false_iff_ne.mpr c37
          have c37b1 : (x110000_5 != 6) = true := bne_iff_ne.mpr c37
          (first | rw [c37b0] | (simp only [i64_w, i32_w]; rw [c37b0]) | rw [c37b1] | skip)
          have H' := Aside0.mk H
          clear H
          go_wp2
          go_meet
          case rel => exact ⟨_, (x0_3), (x109000_3), (x109001_3), (x109003_3), (x110002_3), (u110002), (by first | rfl | (simp; done) | (simp [*]; done)), H', ⟨by have := HJ5.out; have := HJ20.out; have := HK3.out; first | omega | exact Nat.le_refl _⟩, ⟨by (with_reducible repeat (first | apply Kd.R_alloc | apply Kd.R_drewN | apply Kd.R_drew)); exact HO_110002.out⟩, ⟨by (with_reducible repeat (first | apply Kd.R_alloc | apply Kd.R_drewN | apply Kd.R_drew)); exact HO_110004.out⟩, ⟨by (with_reducible repeat (first | refine blk_drewN ?_ _ | refine blk_drew ?_ | refine blk_alloc ?_ _)); exact BK108.out⟩, ⟨by (with_reducible repeat (first | refine blk_drewN ?_ _ | refine blk_drew ?_ | refine blk_alloc ?_ _)); exact BK109.out⟩, ⟨by repeat (first | (with_reducible first | exact HB.out | apply below_alloc | apply pw_below_drewN | apply below_drew1 | refine below_set ?_ GE108.out | refine below_set ?_ GE109.out) | exact HB.out)⟩⟩
         case rest =>
          clear HC34
          try clear c1
          try clear c2
          try clear p2
          try clear q2
          try clear hx2
          try clear qi2
          try clear c3
          try clear c3b0
          try clear c3b1
          try clear c4
          try clear p4
          try clear q4
          try clear hx4
          try clear qi4
          try clear p5
          try clear q5
          try clear hx5
          try clear qi5
          try clear c6
          try clear c15
          try clear c15b0
          try clear c15b1
          try clear c16
          try clear c18
          try clear c18b0
          try clear c18b1
          try clear c23
          try clear c23b0
          try clear c23b1
          try clear c24
          try clear c24b0
          try clear c24b1
          try clear p25
          try clear q25
          try clear hx25
          try clear qi25
          try clear c26
          try clear c27
          try clear c27b0
          try clear c27b1
          try clear c35
          try clear c37
          try clear c37b0
          try clear c37b1
          try clear c39
          try clear c40
          try clear c41
          try clear c43
          try clear c46
          try clear hcz17_0
          try clear hcz17_1
          try clear hcz17_2
          try clear hcz17_3
          try clear hcz17_4
          try clear hcz36_0
          try clear hcz36_1
          try clear hcz36_2
          try clear hcz36_3
          try clear hcz36_4
          try clear hcz42_0
          try clear hcz42_1
          try clear hcz42_2
          try clear hcz42_3
          try clear hcz42_4
          try clear hcz45_0
          try clear hcz45_1
          try clear hcz45_2
          try clear hcz45_3
          try clear hcz45_4
          try clear hcz47_0
          try clear hcz47_1
          try clear hcz47_2
          try clear hcz47_3
          try clear hcz47_4
          try clear hfz17_0
          try clear hfz17_1
          try clear hfz17_2
          try clear hfz17_3
          try clear hfz17_4
          try clear hfz36_0
          try clear hfz36_1
          try clear hfz36_2
          try clear hfz36_3
          try clear hfz36_4
          try clear hfz42_0
          try clear hfz42_1
          try clear hfz42_2
          try clear hfz42_3
          try clear hfz42_4
          try clear hfz45_0
          try clear hfz45_1
          try clear hfz45_2
          try clear hfz45_3
          try clear hfz45_4
          try clear hfz47_0
          try clear hfz47_1
          try clear hfz47_2
          try clear hfz47_3
          try clear hfz47_4
          try clear p2
          try clear p25
          try clear p4
          try clear p5
          try clear q2
          try clear q25
          try clear q4
          try clear q5
          obtain ⟨kq, x0_33, x109000_33, x109001_33, x109003_33, x110002_33, u110002, rfl, HA, HJ33, HO_110002, HO_110004, BK108, BK109, HB⟩ := hcut
          cases kq with
          | zero => exact absurd HA.out (by simp [spec_fjList.j3])
          | succ kj33 =>
           have H := HA.out
           clear HA
           simp only [spec_fjList.j3] at H
           replace H := Option.bind_eq_some_iff.mp H
           obtain ⟨⟨t117, t118, t119, t122, t123, t126, t127⟩, A480, H⟩ := H
           replace H : ((spec_skipped.f kj33 t126).bind fun t129 => (if t127 = true then (if t129.toList = ([] : List UInt8) then (spec_fjList.j4 kj33 t129 a1 (((bt a0 0) + 2) % 256) true x110000_5 (⟨#[]⟩ : ByteArray) x110002_33 false x110004_3 t117 t118 t119 t122 t123) else (if 0 < (t129.size : Int) then (if (bt t129 0) = 44 then (spec_fjList.j4 kj33 t129 a1 (((bt a0 0) + 2) % 256) false x110000_5 (⟨#[]⟩ : ByteArray) x110002_33 false x110004_3 t117 t118 t119 t122 t123) else (spec_fjList.j4 kj33 t129 a1 (((bt a0 0) + 2) % 256) ((bt t129 0) != (((bt a0 0) + 2) % 256)) x110000_5 (⟨#[]⟩ : ByteArray) x110002_33 false x110004_3 t117 t118 t119 t122 t123)) else (none))) else (spec_fjList.j4 kj33 t129 a1 (((bt a0 0) + 2) % 256) true x110000_5 (⟨#[]⟩ : ByteArray) x110002_33 false x110004_3 t117 t118 t119 t122 t123))) = some (r1, r2, r3, r4, r5, r6, r7) := H
           have A48 := Aside0.mk A480
           clear A480
           replace H := Option.bind_eq_some_iff.mp H
           obtain ⟨t129, A490, H⟩ := H
           replace H : (if t127 = true then (if t129.toList = ([] : List UInt8) then (spec_fjList.j4 kj33 t129 a1 (((bt a0 0) + 2) % 256) true x110000_5 (⟨#[]⟩ : ByteArray) x110002_33 false x110004_3 t117 t118 t119 t122 t123) else (if 0 < (t129.size : Int) then (if (bt t129 0) = 44 then (spec_fjList.j4 kj33 t129 a1 (((bt a0 0) + 2) % 256) false x110000_5 (⟨#[]⟩ : ByteArray) x110002_33 false x110004_3 t117 t118 t119 t122 t123) else (spec_fjList.j4 kj33 t129 a1 (((bt a0 0) + 2) % 256) ((bt t129 0) != (((bt a0 0) + 2) % 256)) x110000_5 (⟨#[]⟩ : ByteArray) x110002_33 false x110004_3 t117 t118 t119 t122 t123)) else (none))) else (spec_fjList.j4 kj33 t129 a1 (((bt a0 0) + 2) % 256) true x110000_5 (⟨#[]⟩ : ByteArray) x110002_33 false x110004_3 t117 t118 t119 t122 t123)) = some (r1, r2, r3, r4, r5, r6, r7) := H
           have A49 := Aside0.mk A490
           clear A490
           have HC50 := Aside0.mk H
           clear H
           go_upto_region 15 with (first | ((with_reducible refine gate_callee (f := 25) rfl ?_); refine goesL_ (some 60) rfl rfl Tryd.func25 (by kernel_rfl) rfl #[.string x0_33, .int .i64 (wrap64 (a1 + 1))] rfl (by (try simp only [List.map_toArray, List.map_cons, List.map_nil]); first | done | rfl | (simp only [List.length_drop, List.length_take]; rfl)) ?_; (with_reducible refine (ih_25 kj33 (by have := HJ5.out; have := HJ20.out; have := HK3.out; have := HJ33.out; omega) x0_33 (wrap64 (a1 + 1)) t117 t118 t119 t122 t123 t126 t127 _ A48.out).mono ?_); rintro e w51 ⟨v120, v124, rfl, ho0, ho1, hb⟩; refine ⟨_, rfl, ?_⟩; have n0_ := Aside0.mk (Kd.R_elder' (by (with_reducible repeat (first | apply Kd.R_alloc | apply Kd.R_drewN | apply Kd.R_drew)); exact HO_110002.out) (Kd.R_base ho0) hb); have n1_ := Aside0.mk (Kd.R_mono (Kd.R_told (Kd.R_told (Kd.R_old (by (with_reducible repeat (first | apply Kd.R_alloc | apply Kd.R_drewN | apply Kd.R_drew)); exact HO_110004.out) hb) (Kd.R_base ho0)) (Kd.R_base ho1)) (fun _ h_ => h_.1)); have n2_ := Aside0.mk (Kd.R_lower (Kd.R_new' ho0 (Kd.R_lt (by (with_reducible repeat (first | apply Kd.R_alloc | apply Kd.R_drewN | apply Kd.R_drew)); exact HO_110002.out))) (below_size (by repeat (first | (with_reducible first | exact HB.out | apply below_alloc | apply pw_below_drewN | apply below_drew1 | refine below_set ?_ GE108.out | refine below_set ?_ GE109.out) | exact HB.out)))); have n3_ := Aside0.mk (Kd.R_lower (Kd.R_newB (Kd.R_newB (Kd.R_new' (Kd.R_new' ho1 (Kd.R_lt (by (with_reducible repeat (first | apply Kd.R_alloc | apply Kd.R_drewN | apply Kd.R_drew)); exact HO_110002.out))) (Kd.R_lt (by (with_reducible repeat (first | apply Kd.R_alloc | apply Kd.R_drewN | apply Kd.R_drew)); exact HO_110004.out))) (g := gb108) (o := .cells #[.int .i64 x109000_33, .string x109001_33, .slice none 0 0, .bool x109003_33, .slice none 0 0] 30 (0, 0)) (by (with_reducible repeat (first | refine blk_drewN ?_ _ | refine blk_drew ?_ | refine blk_alloc ?_ _)); exact BK108.out)) (g := gb109) (o := .cells #[.int .i64 x110000_5, .string (⟨#[]⟩ : ByteArray), u110002, .bool false, u110004] 30 (0, 0)) (by (with_reducible repeat (first | refine blk_drewN ?_ _ | refine blk_drew ?_ | refine blk_alloc ?_ _)); exact BK109.out)) (below_size (by repeat (first | (with_reducible first | exact HB.out | apply below_alloc | apply pw_below_drewN | apply below_drew1 | refine below_set ?_ GE108.out | refine below_set ?_ GE109.out) | exact HB.out)))); have n4_ := Aside0.mk (blk_below (g := gb108) (o := .cells #[.int .i64 x109000_33, .string x109001_33, .slice none 0 0, .bool x109003_33, .slice none 0 0] 30 (0, 0)) (by (with_reducible repeat (first | refine blk_drewN ?_ _ | refine blk_drew ?_ | refine blk_alloc ?_ _)); exact BK108.out) hb); have n5_ := Aside0.mk (blk_below (g := gb109) (o := .cells #[.int .i64 x110000_5, .string (⟨#[]⟩ : ByteArray), u110002, .bool false, u110004] 30 (0, 0)) (by (with_reducible repeat (first | refine blk_drewN ?_ _ | refine blk_drew ?_ | refine blk_alloc ?_ _)); exact BK109.out) hb); have n6_ := Aside0.mk (below_step (by repeat (first | (with_reducible first | exact HB.out | apply below_alloc | apply pw_below_drewN | apply below_drew1 | refine below_set ?_ GE108.out | refine below_set ?_ GE109.out) | exact HB.out)) hb); clear HO_110002; clear HO_110004; clear BK108; clear BK109; clear HB; have HO_110002 := n0_; have HO_110004 := n1_; have HO121 := n2_; have HO125 := n3_; have BK108 := n4_; have BK109 := n5_; have HB := n6_; clear n0_ n1_ n2_ n3_ n4_ n5_ n6_; (try clear hb); (try clear hb2); (try clear hk); (try clear hi); (try clear ho0); (try clear ho1)) | ((with_reducible refine gate_dst (N := 12) rfl ?_); refine box_event ?hg (N := 12) ?hd (cs := #[.int .i64 0, .string (⟨#[]⟩ : ByteArray), .slice none 0 0, .bool false, .slice none 0 0]) (t := 30) ?hr ?_; (case hd => rfl); (case hg => rfl); (case hr => first | (go_simp; done) | (go_simp; rfl)); intro gb128 hg w52 hbox hb; have n0_ := Aside0.mk (Kd.R_below (by (with_reducible repeat (first | apply Kd.R_alloc | apply Kd.R_drewN | apply Kd.R_drew)); exact HO_110002.out) hb); have n1_ := Aside0.mk (Kd.R_below (Kd.R_elderB (by (with_reducible repeat (first | apply Kd.R_alloc | apply Kd.R_drewN | apply Kd.R_drew)); exact HO_110004.out) gb128 (Nat.le_of_eq hg.symm)) hb); have n2_ := Aside0.mk (Kd.R_below (by (with_reducible repeat (first | apply Kd.R_alloc | apply Kd.R_drewN | apply Kd.R_drew)); exact HO121.out) hb); have n3_ := Aside0.mk (Kd.R_below (Kd.R_elderB (by (with_reducible repeat (first | apply Kd.R_alloc | apply Kd.R_drewN | apply Kd.R_drew)); exact HO125.out) gb128 (Nat.le_of_eq hg.symm)) hb); have n4_ := Aside0.mk (blk_below (g := gb108) (o := .cells #[.int .i64 x109000_33, .string x109001_33, .slice none 0 0, .bool x109003_33, .slice none 0 0] 30 (0, 0)) (by (with_reducible repeat (first | refine blk_drewN ?_ _ | refine blk_drew ?_ | refine blk_alloc ?_ _)); exact BK108.out) hb); have n5_ := Aside0.mk (blk_below (g := gb109) (o := .cells #[.int .i64 x110000_5, .string (⟨#[]⟩ : ByteArray), u110002, .bool false, u110004] 30 (0, 0)) (by (with_reducible repeat (first | refine blk_drewN ?_ _ | refine blk_drew ?_ | refine blk_alloc ?_ _)); exact BK109.out) hb); have n6_ := Aside0.mk (below_step (by repeat (first | (with_reducible first | exact HB.out | apply below_alloc | apply pw_below_drewN | apply below_drew1 | refine below_set ?_ GE108.out | refine below_set ?_ GE109.out) | exact HB.out)) hb); have n7_ := Aside0.mk (hbox); have n8_ := Aside0.mk ((by rw [hg]; exact (below_size (by repeat (first | (with_reducible first | exact HB.out | apply below_alloc | apply pw_below_drewN | apply below_drew1 | refine below_set ?_ GE108.out | refine below_set ?_ GE109.out) | exact HB.out))) : w.heap.size ≤ gb128)); have n9_ := Aside0.mk ((by rw [hg]; exact (below_size (by repeat (first | (with_reducible first | exact HB.out | apply below_alloc | apply pw_below_drewN | apply below_drew1 | refine below_set ?_ GE108.out | refine below_set ?_ GE109.out) | exact HB.out))) : w.heap.size ≤ gb128)); have n10_ := Aside0.mk ((by rw [hg]; exact Nat.ne_of_lt (blk_lt (g := gb108) (o := .cells #[.int .i64 x109000_33, .string x109001_33, .slice none 0 0, .bool x109003_33, .slice none 0 0] 30 (0, 0)) (by (with_reducible repeat (first | refine blk_drewN ?_ _ | refine blk_drew ?_ | refine blk_alloc ?_ _)); exact BK108.out)) : gb108 ≠ gb128)); have n11_ := Aside0.mk ((by rw [hg]; exact Nat.ne_of_gt (blk_lt (g := gb108) (o := .cells #[.int .i64 x109000_33, .string x109001_33, .slice none 0 0, .bool x109003_33, .slice none 0 0] 30 (0, 0)) (by (with_reducible repeat (first | refine blk_drewN ?_ _ | refine blk_drew ?_ | refine blk_alloc ?_ _)); exact BK108.out)) : gb128 ≠ gb108)); have n12_ := Aside0.mk ((by rw [hg]; exact Nat.ne_of_lt (blk_lt (g := gb109) (o := .cells #[.int .i64 x110000_5, .string (⟨#[]⟩ : ByteArray), u110002, .bool false, u110004] 30 (0, 0)) (by (with_reducible repeat (first | refine blk_drewN ?_ _ | refine blk_drew ?_ | refine blk_alloc ?_ _)); exact BK109.out)) : gb109 ≠ gb128)); have n13_ := Aside0.mk ((by rw [hg]; exact Nat.ne_of_gt (blk_lt (g := gb109) (o := .cells #[.int .i64 x110000_5, .string (⟨#[]⟩ : ByteArray), u110002, .bool false, u110004] 30 (0, 0)) (by (with_reducible repeat (first | refine blk_drewN ?_ _ | refine blk_drew ?_ | refine blk_alloc ?_ _)); exact BK109.out)) : gb128 ≠ gb109)); clear HO_110002; clear HO_110004; clear HO121; clear HO125; clear BK108; clear BK109; clear HB; have HO_110002 := n0_; have HO_110004 := n1_; have HO121 := n2_; have HO125 := n3_; have BK108 := n4_; have BK109 := n5_; have HB := n6_; have BK128 := n7_; have GW128 := n8_; have GE128 := n9_; have NB108_128 := n10_; have NB128_108 := n11_; have NB109_128 := n12_; have NB128_109 := n13_; clear n0_ n1_ n2_ n3_ n4_ n5_ n6_ n7_ n8_ n9_ n10_ n11_ n12_ n13_; clear hb hbox hg; have hnb53 := NB128_108.out; have hnc53 := NB108_128.out; have hnb54 := NB128_109.out; have hnc54 := NB109_128.out; have hcz55_0 : w52.cell? ⟨gb128, 0, none⟩ = some (.int .i64 0) := (blk_cell BK128.out 0).trans rfl; have hcz55_1 : w52.cell? ⟨gb128, 1, none⟩ = some (.string (⟨#[]⟩ : ByteArray)) := (blk_cell BK128.out 1).trans rfl; have hcz55_2 : w52.cell? ⟨gb128, 2, none⟩ = some (.slice none 0 0) := (blk_cell BK128.out 2).trans rfl; have hcz55_3 : w52.cell? ⟨gb128, 3, none⟩ = some (.bool false) := (blk_cell BK128.out 3).trans rfl; have hcz55_4 : w52.cell? ⟨gb128, 4, none⟩ = some (.slice none 0 0) := (blk_cell BK128.out 4).trans rfl; have hfz55_0 := blk_frozen BK128.out 0; have hfz55_1 := blk_frozen BK128.out 1; have hfz55_2 := blk_frozen BK128.out 2; have hfz55_3 := blk_frozen BK128.out 3; have hfz55_4 := blk_frozen BK128.out 4; obtain ⟨Ao56, co56, eo56⟩ := Kd.R_slice HO121.out; subst eo56; obtain ⟨Ao57, co57, eo57⟩ := Kd.R_slice HO125.out; subst eo57) | ((with_reducible refine gate_callee (f := 26) rfl ?_); refine goesL_ (some 65) rfl rfl Tryd.func26 (by kernel_rfl) rfl #[.string t126] rfl (by (try simp only [List.map_toArray, List.map_cons, List.map_nil]); first | done | rfl | (simp only [List.length_drop, List.length_take]; rfl)) ?_; (with_reducible refine (spec_skipped.calls kj33 t126 t129 _ A49.out).mono ?_); rintro e w' ⟨rfl, ⟨nd, rfl⟩⟩; refine ⟨_, rfl, ?_⟩))
           (try simp only [Act.put, List.setIfInBounds_toArray, List.set_cons_zero, List.set_cons_succ])
           go_cut [82] (fun v82 wc => ∃ (kq : Nat) (x82_49 : Bool), v82 = .bool x82_49 ∧ Aside0 (spec_fjList.j4 kq t129 a1 (((bt a0 0) + 2) % 256) x82_49 x110000_5 (⟨#[]⟩ : ByteArray) x110002_33 false x110004_3 t117 t118 t119 t122 t123 = some (r1, r2, r3, r4, r5, r6, r7)) ∧ Aside0 (kq ≤ kj33) ∧ Aside0 (Kd.R Kd.string 9 wc w.heap.size (fun k_ => some k_ ≠ ((.slice Ao56 t119.length co56) : Value).ownBlock) u110002 x110002_33) ∧ Aside0 (Kd.R k30 30 wc w.heap.size (fun k_ => some k_ ≠ (u110002 : Value).ownBlock ∧ some k_ ≠ ((.slice Ao56 t119.length co56) : Value).ownBlock ∧ some k_ ≠ ((.slice Ao57 t123.length co57) : Value).ownBlock ∧ k_ ≠ gb108 ∧ k_ ≠ gb109 ∧ k_ ≠ gb128) u110004 x110004_3) ∧ Aside0 (Kd.R Kd.string 9 wc w.heap.size (fun k_ => some k_ ≠ (u110002 : Value).ownBlock) (.slice Ao56 t119.length co56) t119) ∧ Aside0 (Kd.R k30 30 wc w.heap.size (fun k_ => some k_ ≠ (u110002 : Value).ownBlock ∧ some k_ ≠ (u110004 : Value).ownBlock ∧ some k_ ≠ ((.slice Ao56 t119.length co56) : Value).ownBlock ∧ k_ ≠ gb108 ∧ k_ ≠ gb109 ∧ k_ ≠ gb128) (.slice Ao57 t123.length co57) t123) ∧ Aside0 (wc.heap[gb108]? = some (.cells #[.int .i64 x109000_33, .string x109001_33, (.slice none 0 0), .bool x109003_33, (.slice none 0 0)] 30 (0, 0))) ∧ Aside0 (wc.heap[gb109]? = some (.cells #[.int .i64 x110000_5, .string (⟨#[]⟩ : ByteArray), u110002, .bool false, u110004] 30 (0, 0))) ∧ Aside0 (wc.heap[gb128]? = some (.cells #[.int .i64 t117, .string t118, (.slice Ao56 t119.length co56), .bool t122, (.slice Ao57 t123.length co57)] 30 (0, 0))) ∧ Aside0 (Below w.heap.size w wc))
           case first =>
            have H := HC50.out
            clear HC50
            by_cases c58 : t127 = true
            ·subst c58
             have H1 : (if t129.toList = ([] : List UInt8) then (spec_fjList.j4 kj33 t129 a1 (((bt a0 0) + 2) % 256) true x110000_5 (⟨#[]⟩ : ByteArray) x110002_33 false x110004_3 t117 t118 t119 t122 t123) else (if 0 < (t129.size : Int) then (if (bt t129 0) = 44 then (spec_fjList.j4 kj33 t129 a1 (((bt a0 0) + 2) % 256) false x110000_5 (⟨#[]⟩ : ByteArray) x110002_33 false x110004_3 t117 t118 t119 t122 t123) else (spec_fjList.j4 kj33 t129 a1 (((bt a0 0) + 2) % 256) ((bt t129 0) != (((bt a0 0) + 2) % 256)) x110000_5 (⟨#[]⟩ : ByteArray) x110002_33 false x110004_3 t117 t118 t119 t122 t123)) else (none))) = some (r1, r2, r3, r4, r5, r6, r7) := by rw [if_pos rfl] at H; exact H
             clear H
             have H := H1
             clear H1
             by_cases c59 : t129.toList = ([] : List UInt8)
             ·rw [if_pos c59] at H
              have c59b0 : (t129.toList == ([] : List UInt8)) = true := beq_iff_eq.mpr c59
              have c59b1 : (t129.toList != ([] : List UInt8)) = false := bne_eq_false_iff_eq.mpr c59
              clear c59
              (first | rw [c59b0] | (simp only [i64_w, i32_w]; rw [c59b0]) | rw [c59b1] | skip)
              have H' := Aside0.mk H
              clear H
              go_wp2
              go_meet
              case rel => exact ⟨_, (true), (by first | rfl | (simp; done) | (simp [*]; done)), H', ⟨by have := HJ5.out; have := HJ20.out; have := HK3.out; have := HJ33.out; first | omega | exact Nat.le_refl _⟩, ⟨by (with_reducible repeat (first | apply Kd.R_alloc | apply Kd.R_drewN | apply Kd.R_drew)); exact Kd.R_mono (Kd.R_far (p := ⟨gb128, 4, none⟩) (Kd.R_far (p := ⟨gb128, 3, none⟩) (Kd.R_far (p := ⟨gb128, 2, none⟩) (Kd.R_far (p := ⟨gb128, 1, none⟩) (Kd.R_far (p := ⟨gb128, 0, none⟩) (Kd.R_types HO_110002.out BK128.out (by decide)) (fun _ hk => hk.2) (.int .i64 t117)) (fun _ hk => hk.2) (.string t118)) (fun _ hk => hk.2) (.slice Ao56 t119.length co56)) (fun _ hk => hk.2) (.bool t122)) (fun _ hk => hk.2) (.slice Ao57 t123.length co57)) (fun _ hk => hk.1.2)⟩, ⟨by (with_reducible repeat (first | apply Kd.R_alloc | apply Kd.R_drewN | apply Kd.R_drew)); exact Kd.R_mono (Kd.R_far (p := ⟨gb128, 4, none⟩) (Kd.R_far (p := ⟨gb128, 3, none⟩) (Kd.R_far (p := ⟨gb128, 2, none⟩) (Kd.R_far (p := ⟨gb128, 1, none⟩) (Kd.R_far (p := ⟨gb128, 0, none⟩) (Kd.R_mono HO_110004.out (fun k_ hk => (⟨hk, hk.2⟩ : _ ∧ k_ ≠ gb128))) (fun _ hk => hk.2) (.int .i64 t117)) (fun _ hk => hk.2) (.string t118)) (fun _ hk => hk.2) (.slice Ao56 t119.length co56)) (fun _ hk => hk.2) (.bool t122)) (fun _ hk => hk.2) (.slice Ao57 t123.length co57)) (fun _ hk => ⟨hk.1.1.1.1.1, ⟨hk.1.1.1.2, ⟨hk.1.1.2, ⟨hk.1.1.1.1.2.1, ⟨hk.1.1.1.1.2.2, hk.1.2⟩⟩⟩⟩⟩)⟩, ⟨by (with_reducible repeat (first | apply Kd.R_alloc | apply Kd.R_drewN | apply Kd.R_drew)); exact Kd.R_mono (Kd.R_far (p := ⟨gb128, 4, none⟩) (Kd.R_far (p := ⟨gb128, 3, none⟩) (Kd.R_far (p := ⟨gb128, 2, none⟩) (Kd.R_far (p := ⟨gb128, 1, none⟩) (Kd.R_far (p := ⟨gb128, 0, none⟩) (Kd.R_types HO121.out BK128.out (by decide)) (fun _ hk => hk.2) (.int .i64 t117)) (fun _ hk => hk.2) (.string t118)) (fun _ hk => hk.2) (.slice Ao56 t119.length co56)) (fun _ hk => hk.2) (.bool t122)) (fun _ hk => hk.2) (.slice Ao57 t123.length co57)) (fun _ hk => hk.1.2)⟩, ⟨by (with_reducible repeat (first | apply Kd.R_alloc | apply Kd.R_drewN | apply Kd.R_drew)); exact Kd.R_mono (Kd.R_far (p := ⟨gb128, 4, none⟩) (Kd.R_far (p := ⟨gb128, 3, none⟩) (Kd.R_far (p := ⟨gb128, 2, none⟩) (Kd.R_far (p := ⟨gb128, 1, none⟩) (Kd.R_far (p := ⟨gb128, 0, none⟩) (Kd.R_mono HO125.out (fun k_ hk => (⟨hk, hk.2⟩ : _ ∧ k_ ≠ gb128))) (fun _ hk => hk.2) (.int .i64 t117)) (fun _ hk => hk.2) (.string t118)) (fun _ hk => hk.2) (.slice Ao56 t119.length co56)) (fun _ hk => hk.2) (.bool t122)) (fun _ hk => hk.2) (.slice Ao57 t123.length co57)) (fun _ hk => ⟨hk.1.1.1.1.1.2, ⟨hk.1.1.1.1.2, ⟨hk.1.1.1.1.1.1, ⟨hk.1.1.1.2, ⟨hk.1.1.2, hk.1.2⟩⟩⟩⟩⟩)⟩, ⟨by (with_reducible repeat (first | refine blk_drewN ?_ _ | refine blk_drew ?_ | refine blk_alloc ?_ _)); refine blk_far ?_ NB108_128.out _; (with_reducible repeat (first | refine blk_drewN ?_ _ | refine blk_drew ?_ | refine blk_alloc ?_ _)); refine blk_far ?_ NB108_128.out _; (with_reducible repeat (first | refine blk_drewN ?_ _ | refine blk_drew ?_ | refine blk_alloc ?_ _)); refine blk_far ?_ NB108_128.out _; (with_reducible repeat (first | refine blk_drewN ?_ _ | refine blk_drew ?_ | refine blk_alloc ?_ _)); refine blk_far ?_ NB108_128.out _; (with_reducible repeat (first | refine blk_drewN ?_ _ | refine blk_drew ?_ | refine blk_alloc ?_ _)); refine blk_far ?_ NB108_128.out _; (with_reducible repeat (first | refine blk_drewN ?_ _ | refine blk_drew ?_ | refine blk_alloc ?_ _)); exact BK108.out⟩, ⟨by (with_reducible repeat (first | refine blk_drewN ?_ _ | refine blk_drew ?_ | refine blk_alloc ?_ _)); refine blk_far ?_ NB109_128.out _; (with_reducible repeat (first | refine blk_drewN ?_ _ | refine blk_drew ?_ | refine blk_alloc ?_ _)); refine blk_far ?_ NB109_128.out _; (with_reducible repeat (first | refine blk_drewN ?_ _ | refine blk_drew ?_ | refine blk_alloc ?_ _)); refine blk_far ?_ NB109_128.out _; (with_reducible repeat (first | refine blk_drewN ?_ _ | refine blk_drew ?_ | refine blk_alloc ?_ _)); refine blk_far ?_ NB109_128.out _; (with_reducible repeat (first | refine blk_drewN ?_ _ | refine blk_drew ?_ | refine blk_alloc ?_ _)); refine blk_far ?_ NB109_128.out _; (with_reducible repeat (first | refine blk_drewN ?_ _ | refine blk_drew ?_ | refine blk_alloc ?_ _)); exact BK109.out⟩, ⟨by (with_reducible repeat (first | refine blk_drewN ?_ _ | refine blk_drew ?_ | refine blk_alloc ?_ _)); refine blk_put (cs := #[.int .i64 t117, .string t118, .slice Ao56 t119.length co56, .bool t122, .slice none 0 0]) ?_ 4 _ rfl; (with_reducible repeat (first | refine blk_drewN ?_ _ | refine blk_drew ?_ | refine blk_alloc ?_ _)); refine blk_put (cs := #[.int .i64 t117, .string t118, .slice Ao56 t119.length co56, .bool false, .slice none 0 0]) ?_ 3 _ rfl; (with_reducible repeat (first | refine blk_drewN ?_ _ | refine blk_drew ?_ | refine blk_alloc ?_ _)); refine blk_put (cs := #[.int .i64 t117, .string t118, .slice none 0 0, .bool false, .slice none 0 0]) ?_ 2 _ rfl; (with_reducible repeat (first | refine blk_drewN ?_ _ | refine blk_drew ?_ | refine blk_alloc ?_ _)); refine blk_put (cs := #[.int .i64 t117, .string (⟨#[]⟩ : ByteArray), .slice none 0 0, .bool false, .slice none 0 0]) ?_ 1 _ rfl; (with_reducible repeat (first | refine blk_drewN ?_ _ | refine blk_drew ?_ | refine blk_alloc ?_ _)); refine blk_put (cs := #[.int .i64 0, .string (⟨#[]⟩ : ByteArray), .slice none 0 0, .bool false, .slice none 0 0]) ?_ 0 _ rfl; (with_reducible repeat (first | refine blk_drewN ?_ _ | refine blk_drew ?_ | refine blk_alloc ?_ _)); exact BK128.out⟩, ⟨by repeat (first | (with_reducible first | exact HB.out | apply below_alloc | apply pw_below_drewN | apply below_drew1 | refine below_set ?_ GE108.out | refine below_set ?_ GE109.out | refine below_set ?_ GE128.out) | exact HB.out)⟩⟩
             rw [if_neg c59] at H
             have c59b0 : (t129.toList == ([] : List UInt8)) = false := beq_eq_false_iff_ne.mpr c59
             have c59b1 : (t129.toList != ([] : List UInt8)) = true := bne_iff_ne.mpr c59
             (first | rw [c59b0] | (simp only [i64_w, i32_w]; rw [c59b0]) | rw [c59b1] | skip)
             by_cases c60 : 0 < (t129.size : Int)
             ·rw [if_pos c60] at H
              have c60b0 : decide (0 < (t129.size : Int)) = true := decide_eq_true c60
              have c60b1 : decide (0 < t129.size) = true := decide_eq_true (by omega)
              clear c60
              by_cases c62 : (bt t129 0) = 44
              ·rw [if_pos c62] at H
               have c62b0 : ((bt t129 0) == 44) = true := beq_iff_eq.mpr c62
               have c62b1 : ((bt t129 0) != 44) = false := bne_eq_false_iff_eq.mpr c62
               clear c62
               have H' := Aside0.mk H
               clear H
               have p61 : 0 ≤ (0 : Int) := (by omega)
               have q61 : 0 < t129.size := (by have : (0 : Int) < (t129.size : Int) := of_decide_eq_true (by assumption); omega)
               have hx61 : ∀ h : 0 < t129.size, ((t129[0]'h).toNat : Int) = bt t129 0 := bt_at t129 0
               clear p61
               have qi61 : (0 < (t129.size : Int)) = True := eq_true (of_decide_eq_true (by assumption))
               replace q61 := eq_true q61
               go_wp2
               go_meet
               case rel => exact ⟨_, (false), (by first | rfl | (simp; done) | (simp [*]; done)), H', ⟨by have := HJ5.out; have := HJ20.out; have := HK3.out; have := HJ33.out; first | omega | exact Nat.le_refl _⟩, ⟨by (with_reducible repeat (first | apply Kd.R_alloc | apply Kd.R_drewN | apply Kd.R_drew)); exact Kd.R_mono (Kd.R_far (p := ⟨gb128, 4, none⟩) (Kd.R_far (p := ⟨gb128, 3, none⟩) (Kd.R_far (p := ⟨gb128, 2, none⟩) (Kd.R_far (p := ⟨gb128, 1, none⟩) (Kd.R_far (p := ⟨gb128, 0, none⟩) (Kd.R_types HO_110002.out BK128.out (by decide)) (fun _ hk => hk.2) (.int .i64 t117)) (fun _ hk => hk.2) (.string t118)) (fun _ hk => hk.2) (.slice Ao56 t119.length co56)) (fun _ hk => hk.2) (.bool t122)) (fun _ hk => hk.2) (.slice Ao57 t123.length co57)) (fun _ hk => hk.1.2)⟩, ⟨by (with_reducible repeat (first | apply Kd.R_alloc | apply Kd.R_drewN | apply Kd.R_drew)); exact Kd.R_mono (Kd.R_far (p := ⟨gb128, 4, none⟩) (Kd.R_far (p := ⟨gb128, 3, none⟩) (Kd.R_far (p := ⟨gb128, 2, none⟩) (Kd.R_far (p := ⟨gb128, 1, none⟩) (Kd.R_far (p := ⟨gb128, 0, none⟩) (Kd.R_mono HO_110004.out (fun k_ hk => (⟨hk, hk.2⟩ : _ ∧ k_ ≠ gb128))) (fun _ hk => hk.2) (.int .i64 t117)) (fun _ hk => hk.2) (.string t118)) (fun _ hk => hk.2) (.slice Ao56 t119.length co56)) (fun _ hk => hk.2) (.bool t122)) (fun _ hk => hk.2) (.slice Ao57 t123.length co57)) (fun _ hk => ⟨hk.1.1.1.1.1, ⟨hk.1.1.1.2, ⟨hk.1.1.2, ⟨hk.1.1.1.1.2.1, ⟨hk.1.1.1.1.2.2, hk.1.2⟩⟩⟩⟩⟩)⟩, ⟨by (with_reducible repeat (first | apply Kd.R_alloc | apply Kd.R_drewN | apply Kd.R_drew)); exact Kd.R_mono (Kd.R_far (p := ⟨gb128, 4, none⟩) (Kd.R_far (p := ⟨gb128, 3, none⟩) (Kd.R_far (p := ⟨gb128, 2, none⟩) (Kd.R_far (p := ⟨gb128, 1, none⟩) (Kd.R_far (p := ⟨gb128, 0, none⟩) (Kd.R_types HO121.out BK128.out (by decide)) (fun _ hk => hk.2) (.int .i64 t117)) (fun _ hk => hk.2) (.string t118)) (fun _ hk => hk.2) (.slice Ao56 t119.length co56)) (fun _ hk => hk.2) (.bool t122)) (fun _ hk => hk.2) (.slice Ao57 t123.length co57)) (fun _ hk => hk.1.2)⟩, ⟨by (with_reducible repeat (first | apply Kd.R_alloc | apply Kd.R_drewN | apply Kd.R_drew)); exact Kd.R_mono (Kd.R_far (p := ⟨gb128, 4, none⟩) (Kd.R_far (p := ⟨gb128, 3, none⟩) (Kd.R_far (p := ⟨gb128, 2, none⟩) (Kd.R_far (p := ⟨gb128, 1, none⟩) (Kd.R_far (p := ⟨gb128, 0, none⟩) (Kd.R_mono HO125.out (fun k_ hk => (⟨hk, hk.2⟩ : _ ∧ k_ ≠ gb128))) (fun _ hk => hk.2) (.int .i64 t117)) (fun _ hk => hk.2) (.string t118)) (fun _ hk => hk.2) (.slice Ao56 t119.length co56)) (fun _ hk => hk.2) (.bool t122)) (fun _ hk => hk.2) (.slice Ao57 t123.length co57)) (fun _ hk => ⟨hk.1.1.1.1.1.2, ⟨hk.1.1.1.1.2, ⟨hk.1.1.1.1.1.1, ⟨hk.1.1.1.2, ⟨hk.1.1.2, hk.1.2⟩⟩⟩⟩⟩)⟩, ⟨by (with_reducible repeat (first | refine blk_drewN ?_ _ | refine blk_drew ?_ | refine blk_alloc ?_ _)); refine blk_far ?_ NB108_128.out _; (with_reducible repeat (first | refine blk_drewN ?_ _ | refine blk_drew ?_ | refine blk_alloc ?_ _)); refine blk_far ?_ NB108_128.out _; (with_reducible repeat (first | refine blk_drewN ?_ _ | refine blk_drew ?_ | refine blk_alloc ?_ _)); refine blk_far ?_ NB108_128.out _; (with_reducible repeat (first | refine blk_drewN ?_ _ | refine blk_drew ?_ | refine blk_alloc ?_ _)); refine blk_far ?_ NB108_128.out _; (with_reducible repeat (first | refine blk_drewN ?_ _ | refine blk_drew ?_ | refine blk_alloc ?_ _)); refine blk_far ?_ NB108_128.out _; (with_reducible repeat (first | refine blk_drewN ?_ _ | refine blk_drew ?_ | refine blk_alloc ?_ _)); exact BK108.out⟩, ⟨by (with_reducible repeat (first | refine blk_drewN ?_ _ | refine blk_drew ?_ | refine blk_alloc ?_ _)); refine blk_far ?_ NB109_128.out _; (with_reducible repeat (first | refine blk_drewN ?_ _ | refine blk_drew ?_ | refine blk_alloc ?_ _)); refine blk_far ?_ NB109_128.out _; (with_reducible repeat (first | refine blk_drewN ?_ _ | refine blk_drew ?_ | refine blk_alloc ?_ _)); refine blk_far ?_ NB109_128.out _; (with_reducible repeat (first | refine blk_drewN ?_ _ | refine blk_drew ?_ | refine blk_alloc ?_ _)); refine blk_far ?_ NB109_128.out _; (with_reducible repeat (first | refine blk_drewN ?_ _ | refine blk_drew ?_ | refine blk_alloc ?_ _)); refine blk_far ?_ NB109_128.out _; (with_reducible repeat (first | refine blk_drewN ?_ _ | refine blk_drew ?_ | refine blk_alloc ?_ _)); exact BK109.out⟩, ⟨by (with_reducible repeat (first | refine blk_drewN ?_ _ | refine blk_drew ?_ | refine blk_alloc ?_ _)); refine blk_put (cs := #[.int .i64 t117, .string t118, .slice Ao56 t119.length co56, .bool t122, .slice none 0 0]) ?_ 4 _ rfl; (with_reducible repeat (first | refine blk_drewN ?_ _ | refine blk_drew ?_ | refine blk_alloc ?_ _)); refine blk_put (cs := #[.int .i64 t117, .string t118, .slice Ao56 t119.length co56, .bool false, .slice none 0 0]) ?_ 3 _ rfl; (with_reducible repeat (first | refine blk_drewN ?_ _ | refine blk_drew ?_ | refine blk_alloc ?_ _)); refine blk_put (cs := #[.int .i64 t117, .string t118, .slice none 0 0, .bool false, .slice none 0 0]) ?_ 2 _ rfl; (with_reducible repeat (first | refine blk_drewN ?_ _ | refine blk_drew ?_ | refine blk_alloc ?_ _)); refine blk_put (cs := #[.int .i64 t117, .string (⟨#[]⟩ : ByteArray), .slice none 0 0, .bool false, .slice none 0 0]) ?_ 1 _ rfl; (with_reducible repeat (first | refine blk_drewN ?_ _ | refine blk_drew ?_ | refine blk_alloc ?_ _)); refine blk_put (cs := #[.int .i64 0, .string (⟨#[]⟩ : ByteArray), .slice none 0 0, .bool false, .slice none 0 0]) ?_ 0 _ rfl; (with_reducible repeat (first | refine blk_drewN ?_ _ | refine blk_drew ?_ | refine blk_alloc ?_ _)); exact BK128.out⟩, ⟨by repeat (first | (with_reducible first | exact HB.out | apply below_alloc | apply pw_below_drewN | apply below_drew1 | refine below_set ?_ GE108.out | refine below_set ?_ GE109.out | refine below_set ?_ GE128.out) | exact HB.out)⟩⟩
              rw [if_neg c62] at H
              have c62b0 : ((bt t129 0) == 44) = false := beq_eq_false_iff_ne.mpr c62
              have c62b1 : ((bt t129 0) != 44) = true := bne_iff_ne.mpr c62
              have H' := Aside0.mk H
              clear H
              have p61 : 0 ≤ (0 : Int) := (by omega)
              have q61 : 0 < t129.size := (by have : (0 : Int) < (t129.size : Int) := of_decide_eq_true (by assumption); omega)
              have hx61 : ∀ h : 0 < t129.size, ((t129[0]'h).toNat : Int) = bt t129 0 := bt_at t129 0
              clear p61
              have qi61 : (0 < (t129.size : Int)) = True := eq_true (of_decide_eq_true (by assumption))
              replace q61 := eq_true q61
              have p63 : 0 ≤ (0 : Int) := (by omega)
              have q63 : 0 < t129.size := (by have : (0 : Int) < (t129.size : Int) := of_decide_eq_true (by assumption); omega)
              have hx63 : ∀ h : 0 < t129.size, ((t129[0]'h).toNat : Int) = bt t129 0 := bt_at t129 0
              clear p63
              have qi63 : (0 < (t129.size : Int)) = True := eq_true (of_decide_eq_true (by assumption))
              replace q63 := eq_true q63
              go_wp2
              go_meet
              case rel => exact ⟨_, (((bt t129 0) != (((bt a0 0) + 2) % 256))), (by first | rfl | (simp; done) | (simp [*]; done)), H', ⟨by have := HJ5.out; have := HJ20.out; have := HK3.out; have := HJ33.out; first | omega | exact Nat.le_refl _⟩, ⟨by (with_reducible repeat (first | apply Kd.R_alloc | apply Kd.R_drewN | apply Kd.R_drew)); exact Kd.R_mono (Kd.R_far (p := ⟨gb128, 4, none⟩) (Kd.R_far (p := ⟨gb128, 3, none⟩) (Kd.R_far (p := ⟨gb128, 2, none⟩) (Kd.R_far (p := ⟨gb128, 1, none⟩) (Kd.R_far (p := ⟨gb128, 0, none⟩) (Kd.R_types HO_110002.out BK128.out (by decide)) (fun _ hk => hk.2) (.int .i64 t117)) (fun _ hk => hk.2) (.string t118)) (fun _ hk => hk.2) (.slice Ao56 t119.length co56)) (fun _ hk => hk.2) (.bool t122)) (fun _ hk => hk.2) (.slice Ao57 t123.length co57)) (fun _ hk => hk.1.2)⟩, ⟨by (with_reducible repeat (first | apply Kd.R_alloc | apply Kd.R_drewN | apply Kd.R_drew)); exact Kd.R_mono (Kd.R_far (p := ⟨gb128, 4, none⟩) (Kd.R_far (p := ⟨gb128, 3, none⟩) (Kd.R_far (p := ⟨gb128, 2, none⟩) (Kd.R_far (p := ⟨gb128, 1, none⟩) (Kd.R_far (p := ⟨gb128, 0, none⟩) (Kd.R_mono HO_110004.out (fun k_ hk => (⟨hk, hk.2⟩ : _ ∧ k_ ≠ gb128))) (fun _ hk => hk.2) (.int .i64 t117)) (fun _ hk => hk.2) (.string t118)) (fun _ hk => hk.2) (.slice Ao56 t119.length co56)) (fun _ hk => hk.2) (.bool t122)) (fun _ hk => hk.2) (.slice Ao57 t123.length co57)) (fun _ hk => ⟨hk.1.1.1.1.1, ⟨hk.1.1.1.2, ⟨hk.1.1.2, ⟨hk.1.1.1.1.2.1, ⟨hk.1.1.1.1.2.2, hk.1.2⟩⟩⟩⟩⟩)⟩, ⟨by (with_reducible repeat (first | apply Kd.R_alloc | apply Kd.R_drewN | apply Kd.R_drew)); exact Kd.R_mono (Kd.R_far (p := ⟨gb128, 4, none⟩) (Kd.R_far (p := ⟨gb128, 3, none⟩) (Kd.R_far (p := ⟨gb128, 2, none⟩) (Kd.R_far (p := ⟨gb128, 1, none⟩) (Kd.R_far (p := ⟨gb128, 0, none⟩) (Kd.R_types HO121.out BK128.out (by decide)) (fun _ hk => hk.2) (.int .i64 t117)) (fun _ hk => hk.2) (.string t118)) (fun _ hk => hk.2) (.slice Ao56 t119.length co56)) (fun _ hk => hk.2) (.bool t122)) (fun _ hk => hk.2) (.slice Ao57 t123.length co57)) (fun _ hk => hk.1.2)⟩, ⟨by (with_reducible repeat (first | apply Kd.R_alloc | apply Kd.R_drewN | apply Kd.R_drew)); exact Kd.R_mono (Kd.R_far (p := ⟨gb128, 4, none⟩) (Kd.R_far (p := ⟨gb128, 3, none⟩) (Kd.R_far (p := ⟨gb128, 2, none⟩) (Kd.R_far (p := ⟨gb128, 1, none⟩) (Kd.R_far (p := ⟨gb128, 0, none⟩) (Kd.R_mono HO125.out (fun k_ hk => (⟨hk, hk.2⟩ : _ ∧ k_ ≠ gb128))) (fun _ hk => hk.2) (.int .i64 t117)) (fun _ hk => hk.2) (.string t118)) (fun _ hk => hk.2) (.slice Ao56 t119.length co56)) (fun _ hk => hk.2) (.bool t122)) (fun _ hk => hk.2) (.slice Ao57 t123.length co57)) (fun _ hk => ⟨hk.1.1.1.1.1.2, ⟨hk.1.1.1.1.2, ⟨hk.1.1.1.1.1.1, ⟨hk.1.1.1.2, ⟨hk.1.1.2, hk.1.2⟩⟩⟩⟩⟩)⟩, ⟨by (with_reducible repeat (first | refine blk_drewN ?_ _ | refine blk_drew ?_ | refine blk_alloc ?_ _)); refine blk_far ?_ NB108_128.out _; (with_reducible repeat (first | refine blk_drewN ?_ _ | refine blk_drew ?_ | refine blk_alloc ?_ _)); refine blk_far ?_ NB108_128.out _; (with_reducible repeat (first | refine blk_drewN ?_ _ | refine blk_drew ?_ | refine blk_alloc ?_ _)); refine blk_far ?_ NB108_128.out _; (with_reducible repeat (first | refine blk_drewN ?_ _ | refine blk_drew ?_ | refine blk_alloc ?_ _)); refine blk_far ?_ NB108_128.out _; (with_reducible repeat (first | refine blk_drewN ?_ _ | refine blk_drew ?_ | refine blk_alloc ?_ _)); refine blk_far ?_ NB108_128.out _; (with_reducible repeat (first | refine blk_drewN ?_ _ | refine blk_drew ?_ | refine blk_alloc ?_ _)); exact BK108.out⟩, ⟨by (with_reducible repeat (first | refine blk_drewN ?_ _ | refine blk_drew ?_ | refine blk_alloc ?_ _)); refine blk_far ?_ NB109_128.out _; (with_reducible repeat (first | refine blk_drewN ?_ _ | refine blk_drew ?_ | refine blk_alloc ?_ _)); refine blk_far ?_ NB109_128.out _; (with_reducible repeat (first | refine blk_drewN ?_ _ | refine blk_drew ?_ | refine blk_alloc ?_ _)); refine blk_far ?_ NB109_128.out _; (with_reducible repeat (first | refine blk_drewN ?_ _ | refine blk_drew ?_ | refine blk_alloc ?_ _)); refine blk_far ?_ NB109_128.out _; (with_reducible repeat (first | refine blk_drewN ?_ _ | refine blk_drew ?_ | refine blk_alloc ?_ _)); refine blk_far ?_ NB109_128.out _; (with_reducible repeat (first | refine blk_drewN ?_ _ | refine blk_drew ?_ | refine blk_alloc ?_ _)); exact BK109.out⟩, ⟨by (with_reducible repeat (first | refine blk_drewN ?_ _ | refine blk_drew ?_ | refine blk_alloc ?_ _)); refine blk_put (cs := #[.int .i64 t117, .string t118, .slice Ao56 t119.length co56, .bool t122, .slice none 0 0]) ?_ 4 _ rfl; (with_reducible repeat (first | refine blk_drewN ?_ _ | refine blk_drew ?_ | refine blk_alloc ?_ _)); refine blk_put (cs := #[.int .i64 t117, .string t118, .slice Ao56 t119.length co56, .bool false, .slice none 0 0]) ?_ 3 _ rfl; (with_reducible repeat (first | refine blk_drewN ?_ _ | refine blk_drew ?_ | refine blk_alloc ?_ _)); refine blk_put (cs := #[.int .i64 t117, .string t118, .slice none 0 0, .bool false, .slice none 0 0]) ?_ 2 _ rfl; (with_reducible repeat (first | refine blk_drewN ?_ _ | refine blk_drew ?_ | refine blk_alloc ?_ _)); refine blk_put (cs := #[.int .i64 t117, .string (⟨#[]⟩ : ByteArray), .slice none 0 0, .bool false, .slice none 0 0]) ?_ 1 _ rfl; (with_reducible repeat (first | refine blk_drewN ?_ _ | refine blk_drew ?_ | refine blk_alloc ?_ _)); refine blk_put (cs := #[.int .i64 0, .string (⟨#[]⟩ : ByteArray), .slice none 0 0, .bool false, .slice none 0 0]) ?_ 0 _ rfl; (with_reducible repeat (first | refine blk_drewN ?_ _ | refine blk_drew ?_ | refine blk_alloc ?_ _)); exact BK128.out⟩, ⟨by repeat (first | (with_reducible first | exact HB.out | apply below_alloc | apply pw_below_drewN | apply below_drew1 | refine below_set ?_ GE108.out | refine below_set ?_ GE109.out | refine below_set ?_ GE128.out) | exact HB.out)⟩⟩
             rw [if_neg c60] at H
             exact absurd H (by simp)
            replace c58 := Bool.eq_false_iff.mpr c58
            subst c58
            have H1 : (spec_fjList.j4 kj33 t129 a1 (((bt a0 0) + 2) % 256) true x110000_5 (⟨#[]⟩ : ByteArray) x110002_33 false x110004_3 t117 t118 t119 t122 t123) = some (r1, r2, r3, r4, r5, r6, r7) := by rw [if_neg (show ¬ (false = true) by decide)] at H; exact H
            clear H
            have H := H1
            clear H1
            have H' := Aside0.mk H
            clear H
            go_wp2
            go_meet
            case rel => exact ⟨_, (true), (by first | rfl | (simp; done) | (simp [*]; done)), H', ⟨by have := HJ5.out; have := HJ20.out; have := HK3.out; have := HJ33.out; first | omega | exact Nat.le_refl _⟩, ⟨by (with_reducible repeat (first | apply Kd.R_alloc | apply Kd.R_drewN | apply Kd.R_drew)); exact Kd.R_mono (Kd.R_far (p := ⟨gb128, 4, none⟩) (Kd.R_far (p := ⟨gb128, 3, none⟩) (Kd.R_far (p := ⟨gb128, 2, none⟩) (Kd.R_far (p := ⟨gb128, 1, none⟩) (Kd.R_far (p := ⟨gb128, 0, none⟩) (Kd.R_types HO_110002.out BK128.out (by decide)) (fun _ hk => hk.2) (.int .i64 t117)) (fun _ hk => hk.2) (.string t118)) (fun _ hk => hk.2) (.slice Ao56 t119.length co56)) (fun _ hk => hk.2) (.bool t122)) (fun _ hk => hk.2) (.slice Ao57 t123.length co57)) (fun _ hk => hk.1.2)⟩, ⟨by (with_reducible repeat (first | apply Kd.R_alloc | apply Kd.R_drewN | apply Kd.R_drew)); exact Kd.R_mono (Kd.R_far (p := ⟨gb128, 4, none⟩) (Kd.R_far (p := ⟨gb128, 3, none⟩) (Kd.R_far (p := ⟨gb128, 2, none⟩) (Kd.R_far (p := ⟨gb128, 1, none⟩) (Kd.R_far (p := ⟨gb128, 0, none⟩) (Kd.R_mono HO_110004.out (fun k_ hk => (⟨hk, hk.2⟩ : _ ∧ k_ ≠ gb128))) (fun _ hk => hk.2) (.int .i64 t117)) (fun _ hk => hk.2) (.string t118)) (fun _ hk => hk.2) (.slice Ao56 t119.length co56)) (fun _ hk => hk.2) (.bool t122)) (fun _ hk => hk.2) (.slice Ao57 t123.length co57)) (fun _ hk => ⟨hk.1.1.1.1.1, ⟨hk.1.1.1.2, ⟨hk.1.1.2, ⟨hk.1.1.1.1.2.1, ⟨hk.1.1.1.1.2.2, hk.1.2⟩⟩⟩⟩⟩)⟩, ⟨by (with_reducible repeat (first | apply Kd.R_alloc | apply Kd.R_drewN | apply Kd.R_drew)); exact Kd.R_mono (Kd.R_far (p := ⟨gb128, 4, none⟩) (Kd.R_far (p := ⟨gb128, 3, none⟩) (Kd.R_far (p := ⟨gb128, 2, none⟩) (Kd.R_far (p := ⟨gb128, 1, none⟩) (Kd.R_far (p := ⟨gb128, 0, none⟩) (Kd.R_types HO121.out BK128.out (by decide)) (fun _ hk => hk.2) (.int .i64 t117)) (fun _ hk => hk.2) (.string t118)) (fun _ hk => hk.2) (.slice Ao56 t119.length co56)) (fun _ hk => hk.2) (.bool t122)) (fun _ hk => hk.2) (.slice Ao57 t123.length co57)) (fun _ hk => hk.1.2)⟩, ⟨by (with_reducible repeat (first | apply Kd.R_alloc | apply Kd.R_drewN | apply Kd.R_drew)); exact Kd.R_mono (Kd.R_far (p := ⟨gb128, 4, none⟩) (Kd.R_far (p := ⟨gb128, 3, none⟩) (Kd.R_far (p := ⟨gb128, 2, none⟩) (Kd.R_far (p := ⟨gb128, 1, none⟩) (Kd.R_far (p := ⟨gb128, 0, none⟩) (Kd.R_mono HO125.out (fun k_ hk => (⟨hk, hk.2⟩ : _ ∧ k_ ≠ gb128))) (fun _ hk => hk.2) (.int .i64 t117)) (fun _ hk => hk.2) (.string t118)) (fun _ hk => hk.2) (.slice Ao56 t119.length co56)) (fun _ hk => hk.2) (.bool t122)) (fun _ hk => hk.2) (.slice Ao57 t123.length co57)) (fun _ hk => ⟨hk.1.1.1.1.1.2, ⟨hk.1.1.1.1.2, ⟨hk.1.1.1.1.1.1, ⟨hk.1.1.1.2, ⟨hk.1.1.2, hk.1.2⟩⟩⟩⟩⟩)⟩, ⟨by (with_reducible repeat (first | refine blk_drewN ?_ _ | refine blk_drew ?_ | refine blk_alloc ?_ _)); refine blk_far ?_ NB108_128.out _; (with_reducible repeat (first | refine blk_drewN ?_ _ | refine blk_drew ?_ | refine blk_alloc ?_ _)); refine blk_far ?_ NB108_128.out _; (with_reducible repeat (first | refine blk_drewN ?_ _ | refine blk_drew ?_ | refine blk_alloc ?_ _)); refine blk_far ?_ NB108_128.out _; (with_reducible repeat (first | refine blk_drewN ?_ _ | refine blk_drew ?_ | refine blk_alloc ?_ _)); refine blk_far ?_ NB108_128.out _; (with_reducible repeat (first | refine blk_drewN ?_ _ | refine blk_drew ?_ | refine blk_alloc ?_ _)); refine blk_far ?_ NB108_128.out _; (with_reducible repeat (first | refine blk_drewN ?_ _ | refine blk_drew ?_ | refine blk_alloc ?_ _)); exact BK108.out⟩, ⟨by (with_reducible repeat (first | refine blk_drewN ?_ _ | refine blk_drew ?_ | refine blk_alloc ?_ _)); refine blk_far ?_ NB109_128.out _; (with_reducible repeat (first | refine blk_drewN ?_ _ | refine blk_drew ?_ | refine blk_alloc ?_ _)); refine blk_far ?_ NB109_128.out _; (with_reducible repeat (first | refine blk_drewN ?_ _ | refine blk_drew ?_ | refine blk_alloc ?_ _)); refine blk_far ?_ NB109_128.out _; (with_reducible repeat (first | refine blk_drewN ?_ _ | refine blk_drew ?_ | refine blk_alloc ?_ _)); refine blk_far ?_ NB109_128.out _; (with_reducible repeat (first | refine blk_drewN ?_ _ | refine blk_drew ?_ | refine blk_alloc ?_ _)); refine blk_far ?_ NB109_128.out _; (with_reducible repeat (first | refine blk_drewN ?_ _ | refine blk_drew ?_ | refine blk_alloc ?_ _)); exact BK109.out⟩, ⟨by (with_reducible repeat (first | refine blk_drewN ?_ _ | refine blk_drew ?_ | refine blk_alloc ?_ _)); refine blk_put (cs := #[.int .i64 t117, .string t118, .slice Ao56 t119.length co56, .bool t122, .slice none 0 0]) ?_ 4 _ rfl; (with_reducible repeat (first | refine blk_drewN ?_ _ | refine blk_drew ?_ | refine blk_alloc ?_ _)); refine blk_put (cs := #[.int .i64 t117, .string t118, .slice Ao56 t119.length co56, .bool false, .slice none 0 0]) ?_ 3 _ rfl; (with_reducible repeat (first | refine blk_drewN ?_ _ | refine blk_drew ?_ | refine blk_alloc ?_ _)); refine blk_put (cs := #[.int .i64 t117, .string t118, .slice none 0 0, .bool false, .slice none 0 0]) ?_ 2 _ rfl; (with_reducible repeat (first | refine blk_drewN ?_ _ | refine blk_drew ?_ | refine blk_alloc ?_ _)); refine blk_put (cs := #[.int .i64 t117, .string (⟨#[]⟩ : ByteArray), .slice none 0 0, .bool false, .slice none 0 0]) ?_ 1 _ rfl; (with_reducible repeat (first | refine blk_drewN ?_ _ | refine blk_drew ?_ | refine blk_alloc ?_ _)); refine blk_put (cs := #[.int .i64 0, .string (⟨#[]⟩ : ByteArray), .slice none 0 0, .bool false, .slice none 0 0]) ?_ 0 _ rfl; (with_reducible repeat (first | refine blk_drewN ?_ _ | refine blk_drew ?_ | refine blk_alloc ?_ _)); exact BK128.out⟩, ⟨by repeat (first | (with_reducible first | exact HB.out | apply below_alloc | apply pw_below_drewN | apply below_drew1 | refine below_set ?_ GE108.out | refine below_set ?_ GE109.out | refine below_set ?_ GE128.out) | exact HB.out)⟩⟩
           case rest =>
            clear HC50
            try clear c1
            try clear c2
            try clear p2
            try clear q2
            try clear hx2
            try clear qi2
            try clear c3
            try clear c3b0
            try clear c3b1
            try clear c4
            try clear p4
            try clear q4
            try clear hx4
            try clear qi4
            try clear c5
            try clear p5
            try clear q5
            try clear hx5
            try clear qi5
            try clear c6
            try clear p6
            try clear q6
            try clear hx6
            try clear qi6
            try clear c15
            try clear c15b0
            try clear c15b1
            try clear c16
            try clear c18
            try clear c18b0
            try clear c18b1
            try clear c23
            try clear c23b0
            try clear c23b1
            try clear c24
            try clear c24b0
            try clear c24b1
            try clear c25
            try clear p25
            try clear q25
            try clear hx25
            try clear qi25
            try clear c26
            try clear c27
            try clear c27b0
            try clear c27b1
            try clear c35
            try clear c37
            try clear c37b0
            try clear c37b1
            try clear c39
            try clear c40
            try clear c41
            try clear c43
            try clear c46
            try clear c53
            try clear c54
            try clear c58
            try clear c59
            try clear c59b0
            try clear c59b1
            try clear c60
            try clear c60b0
            try clear c60b1
            try clear p61
            try clear q61
            try clear hx61
            try clear qi61
            try clear c62
            try clear c62b0
            try clear c62b1
            try clear p63
            try clear q63
            try clear hx63
            try clear qi63
            try clear hcz17_0
            try clear hcz17_1
            try clear hcz17_2
            try clear hcz17_3
            try clear hcz17_4
            try clear hcz36_0
            try clear hcz36_1
            try clear hcz36_2
            try clear hcz36_3
            try clear hcz36_4
            try clear hcz42_0
            try clear hcz42_1
            try clear hcz42_2
            try clear hcz42_3
            try clear hcz42_4
            try clear hcz45_0
            try clear hcz45_1
            try clear hcz45_2
            try clear hcz45_3
            try clear hcz45_4
            try clear hcz47_0
            try clear hcz47_1
            try clear hcz47_2
            try clear hcz47_3
            try clear hcz47_4
            try clear hcz55_0
            try clear hcz55_1
            try clear hcz55_2
            try clear hcz55_3
            try clear hcz55_4
            try clear hfz17_0
            try clear hfz17_1
            try clear hfz17_2
            try clear hfz17_3
            try clear hfz17_4
            try clear hfz36_0
            try clear hfz36_1
            try clear hfz36_2
            try clear hfz36_3
            try clear hfz36_4
            try clear hfz42_0
            try clear hfz42_1
            try clear hfz42_2
            try clear hfz42_3
            try clear hfz42_4
            try clear hfz45_0
            try clear hfz45_1
            try clear hfz45_2
            try clear hfz45_3
            try clear hfz45_4
            try clear hfz47_0
            try clear hfz47_1
            try clear hfz47_2
            try clear hfz47_3
            try clear hfz47_4
            try clear hfz55_0
            try clear hfz55_1
            try clear hfz55_2
            try clear hfz55_3
            try clear hfz55_4
            try clear p2
            try clear p25
            try clear p4
            try clear p5
            try clear p61
            try clear p63
            try clear q2
            try clear q25
            try clear q4
            try clear q5
            try clear q61
            try clear q63
            obtain ⟨kq, x82_49, rfl, HA, HJ49, HO_110002, HO_110004, HO_129002, HO_129004, BK108, BK109, BK128, HB⟩ := hcut
            cases kq with
            | zero => exact absurd HA.out (by simp [spec_fjList.j4])
            | succ kj49 =>
             have H := HA.out
             clear HA
             simp only [spec_fjList.j4] at H
             by_cases c64 : x82_49 = true
             ·subst c64
              have H1 : (some (0, (⟨#[]⟩ : ByteArray), ([] : List ByteArray), false, ([] : List (S30)), (⟨#[]⟩ : ByteArray), false)) = some (r1, r2, r3, r4, r5, r6, r7) := by rw [if_pos rfl] at H; exact H
              clear H
              have H := H1
              clear H1
              simp only [Option.some.injEq, Prod.mk.injEq] at H
              obtain ⟨rfl, rfl, rfl, rfl, rfl, rfl, rfl⟩ := H
              have hnb65 := NB108_109.out
              have hnc65 := NB109_108.out
              have hnb66 := NB108_128.out
              have hnc66 := NB128_108.out
              have hcz67_0 : wc.cell? ⟨gb108, 0, none⟩ = some (.int .i64 x109000_33) := (blk_cell BK108.out 0).trans rfl
              have hcz67_1 : wc.cell? ⟨gb108, 1, none⟩ = some (.string x109001_33) := (blk_cell BK108.out 1).trans rfl
              have hcz67_2 : wc.cell? ⟨gb108, 2, none⟩ = some (.slice none 0 0) := (blk_cell BK108.out 2).trans rfl
              have hcz67_3 : wc.cell? ⟨gb108, 3, none⟩ = some (.bool x109003_33) := (blk_cell BK108.out 3).trans rfl
              have hcz67_4 : wc.cell? ⟨gb108, 4, none⟩ = some (.slice none 0 0) := (blk_cell BK108.out 4).trans rfl
              have hfz67_0 := blk_frozen BK108.out 0
              have hfz67_1 := blk_frozen BK108.out 1
              have hfz67_2 := blk_frozen BK108.out 2
              have hfz67_3 := blk_frozen BK108.out 3
              have hfz67_4 := blk_frozen BK108.out 4
              go_wp2
              refine bodyPost_ret (results_ctt rfl _ _ gb108 30 #[.int .i64 0, .string (⟨#[]⟩ : ByteArray), .slice none 0 0, .bool false, .slice none 0 0] (0, 0) _ rfl (by (with_reducible repeat (first | refine blk_drewN ?_ _ | refine blk_drew ?_ | refine blk_alloc ?_ _)); refine blk_put (cs := #[.int .i64 0, .string (⟨#[]⟩ : ByteArray), .slice none 0 0, .bool false, .slice none 0 0]) ?_ 4 _ rfl; (with_reducible repeat (first | refine blk_drewN ?_ _ | refine blk_drew ?_ | refine blk_alloc ?_ _)); refine blk_put (cs := #[.int .i64 0, .string (⟨#[]⟩ : ByteArray), .slice none 0 0, .bool x109003_33, .slice none 0 0]) ?_ 3 _ rfl; (with_reducible repeat (first | refine blk_drewN ?_ _ | refine blk_drew ?_ | refine blk_alloc ?_ _)); refine blk_put (cs := #[.int .i64 0, .string (⟨#[]⟩ : ByteArray), .slice none 0 0, .bool x109003_33, .slice none 0 0]) ?_ 2 _ rfl; (with_reducible repeat (first | refine blk_drewN ?_ _ | refine blk_drew ?_ | refine blk_alloc ?_ _)); refine blk_put (cs := #[.int .i64 0, .string x109001_33, .slice none 0 0, .bool x109003_33, .slice none 0 0]) ?_ 1 _ rfl; (with_reducible repeat (first | refine blk_drewN ?_ _ | refine blk_drew ?_ | refine blk_alloc ?_ _)); refine blk_put (cs := #[.int .i64 x109000_33, .string x109001_33, .slice none 0 0, .bool x109003_33, .slice none 0 0]) ?_ 0 _ rfl; (with_reducible repeat (first | refine blk_drewN ?_ _ | refine blk_drew ?_ | refine blk_alloc ?_ _)); exact BK108.out) Tryd.underlying30 rfl (by kernel_rfl)) rfl ?_
              exact ⟨_, _, by first | rfl | (simp [errW_none, errW_some] <;> rfl) | (simp [*, errW_none, errW_some] <;> rfl) | (simp [errW_none, errW_some] <;> exact ⟨rfl, rfl⟩) | (simp [*, errW_none, errW_some] <;> exact ⟨rfl, rfl⟩), by first | exact Kd.R_nil _ _ _ _ _ | exact Kd.N_nil _ _ _ _ _ | exact Kd.V_nil _ _ _ _ _ | exact Kd.Q_nil _ _ _ _ _ | exact Kd.S_nil _ _ _ _ _, by first | exact Kd.R_nil _ _ _ _ _ | exact Kd.N_nil _ _ _ _ _ | exact Kd.V_nil _ _ _ _ _ | exact Kd.Q_nil _ _ _ _ _ | exact Kd.S_nil _ _ _ _ _, by repeat (first | (with_reducible first | exact HB.out | apply below_alloc | apply pw_below_drewN | apply below_drew1 | refine below_set ?_ GE108.out | refine below_set ?_ GE109.out | refine below_set ?_ GE128.out) | exact HB.out)⟩
             replace c64 := Bool.eq_false_iff.mpr c64
             subst c64
             have H1 : (if x110004_3.length < 1759218604441 then ((some (x110004_3 ++ [(⟨t117, t118, t119, t122, t123⟩ : S30)] : List (S30))).bind fun y130 => (if 0 < (t129.size : Int) then (if (bt t129 0) = (((bt a0 0) + 2) % 256) then (if 1 ≤ (t129.size : Int) then (some (x110000_5, (⟨#[]⟩ : ByteArray), x110002_33, false, y130, t129.extract 1 t129.size, true)) else (none)) else (if 1 ≤ (t129.size : Int) then ((spec_skipped.f kj49 (t129.extract 1 t129.size)).bind fun t133 => (spec_fjList.l0 kj49 t133 a1 (((bt a0 0) + 2) % 256) x110000_5 (⟨#[]⟩ : ByteArray) x110002_33 false y130)) else (none))) else (none))) else (none)) = some (r1, r2, r3, r4, r5, r6, r7) := by rw [if_neg (show ¬ (false = true) by decide)] at H; exact H
             clear H
             have H := H1
             clear H1
             by_cases c68 : x110004_3.length < 1759218604441
             ·rw [if_pos c68] at H
              have LMc68 := Aside0.mk c68
              clear c68
              obtain ⟨y130, hy130⟩ : ∃ y_ : List (S30), y_ = (x110004_3 ++ [(⟨t117, t118, t119, t122, t123⟩ : S30)]) := ⟨_, rfl⟩
              replace H : (if 0 < (t129.size : Int) then (if (bt t129 0) = (((bt a0 0) + 2) % 256) then (if 1 ≤ (t129.size : Int) then (some (x110000_5, (⟨#[]⟩ : ByteArray), x110002_33, false, y130, t129.extract 1 t129.size, true)) else (none)) else (if 1 ≤ (t129.size : Int) then ((spec_skipped.f kj49 (t129.extract 1 t129.size)).bind fun t133 => (spec_fjList.l0 kj49 t133 a1 (((bt a0 0) + 2) % 256) x110000_5 (⟨#[]⟩ : ByteArray) x110002_33 false y130)) else (none))) else (none)) = some (r1, r2, r3, r4, r5, r6, r7) := by first | (rw [hy130]; with_reducible exact H) | (have H2_ := (Option.bind_some _ _).symm.trans H; rw [hy130]; with_reducible exact H2_) | (have H2_ := (Option.bind_some _ _).symm.trans H; with_reducible exact H2_) | with_reducible exact H | (rw [hy130]; exact H) | exact H
              have Ny130 := Aside0.mk hy130
              clear hy130
              by_cases c69 : 0 < (t129.size : Int)
              ·rw [if_pos c69] at H
               have c69b0 : decide (0 < (t129.size : Int)) = true := decide_eq_true c69
               have c69b1 : decide (0 < t129.size) = true := decide_eq_true (by omega)
               clear c69
               by_cases c71 : (bt t129 0) = (((bt a0 0) + 2) % 256)
               ·rw [if_pos c71] at H
                have c71b0 : ((bt t129 0) == (((bt a0 0) + 2) % 256)) = true := beq_iff_eq.mpr c71
                have c71b1 : ((bt t129 0) != (((bt a0 0) + 2) % 256)) = false := bne_eq_false_iff_eq.mpr c71
                clear c71
                by_cases c72 : 1 ≤ (t129.size : Int)
                ·rw [if_pos c72] at H
                 have c72b0 := eq_true c72
                 have c72b1 : decide (1 ≤ (t129.size : Int)) = true := decide_eq_true c72
                 clear c72
                 simp only [Option.some.injEq, Prod.mk.injEq] at H
                 obtain ⟨rfl, rfl, rfl, rfl, rfl, rfl, rfl⟩ := H
                 have hnb73 := NB109_108.out
                 have hnc73 := NB108_109.out
                 have hnb74 := NB109_128.out
                 have hnc74 := NB128_109.out
                 have hcz75_0 : wc.cell? ⟨gb109, 0, none⟩ = some (.int .i64 x110000_5) := (blk_cell BK109.out 0).trans rfl
                 have hcz75_1 : wc.cell? ⟨gb109, 1, none⟩ = some (.string (⟨#[]⟩ : ByteArray)) := (blk_cell BK109.out 1).trans rfl
                 have hcz75_2 : wc.cell? ⟨gb109, 2, none⟩ = some (u110002) := (blk_cell BK109.out 2).trans rfl
                 have hcz75_3 : wc.cell? ⟨gb109, 3, none⟩ = some (.bool false) := (blk_cell BK109.out 3).trans rfl
                 have hcz75_4 : wc.cell? ⟨gb109, 4, none⟩ = some (u110004) := (blk_cell BK109.out 4).trans rfl
                 have hfz75_0 := blk_frozen BK109.out 0
                 have hfz75_1 := blk_frozen BK109.out 1
                 have hfz75_2 := blk_frozen BK109.out 2
                 have hfz75_3 := blk_frozen BK109.out 3
                 have hfz75_4 := blk_frozen BK109.out 4
                 have hnb76 := NB128_108.out
                 have hnc76 := NB108_128.out
                 have hcz77_0 : wc.cell? ⟨gb128, 0, none⟩ = some (.int .i64 t117) := (blk_cell BK128.out 0).trans rfl
                 have hcz77_1 : wc.cell? ⟨gb128, 1, none⟩ = some (.string t118) := (blk_cell BK128.out 1).trans rfl
                 have hcz77_2 : wc.cell? ⟨gb128, 2, none⟩ = some (.slice Ao56 t119.length co56) := (blk_cell BK128.out 2).trans rfl
                 have hcz77_3 : wc.cell? ⟨gb128, 3, none⟩ = some (.bool t122) := (blk_cell BK128.out 3).trans rfl
                 have hcz77_4 : wc.cell? ⟨gb128, 4, none⟩ = some (.slice Ao57 t123.length co57) := (blk_cell BK128.out 4).trans rfl
                 have hfz77_0 := blk_frozen BK128.out 0
                 have hfz77_1 := blk_frozen BK128.out 1
                 have hfz77_2 := blk_frozen BK128.out 2
                 have hfz77_3 := blk_frozen BK128.out 3
                 have hfz77_4 := blk_frozen BK128.out 4
                 try go_wp2_with (first | ((with_reducible refine gate_builtin (b := .append) (xs := #[.tmp 85, .tmp 87]) rfl ?_); at_builtin; refine Kd.R_append k30 (w0 := w) w.heap.size rfl (.tmp 85) (.tmp 87) 28 30 (.agg #[(.int .i64 0), (.string ⟨#[]⟩), (.slice none 0 0), (.bool false), (.slice none 0 0)]) 80 rfl Tryd.underlying28 info30 rfl (by decide) (by omega) u110004 x110004_3 (⟨t117, t118, t119, t122, t123⟩ : S30) [.int .i64 t117, .string t118, .slice Ao56 t119.length co56, .bool t122, .slice Ao57 t123.length co57] (fun k_ => some k_ ≠ (u110002 : Value).ownBlock ∧ k_ ≠ gb108 ∧ k_ ≠ gb109 ∧ k_ ≠ gb128) (fun k_ => ((fun k_ => some k_ ≠ (u110002 : Value).ownBlock ∧ k_ ≠ gb108 ∧ k_ ≠ gb109 ∧ k_ ≠ gb128)) k_ ∧ some k_ ≠ (u110004 : Value).ownBlock) rfl rfl ?aP (fun _ hk => hk) ?aF ?aO ?aB ?aS ?aL ?_; (case aP => exact k30_mkM _ _ _ (⟨t117, t118, t119, t122, t123⟩ : S30) (Kd.R_mono (Kd.R_types (Kd.R_types (Kd.R_types (Kd.R_apart' (HO_129002.out) (Kd.R_typed HO_110004.out) (by decide)) BK108.out (by decide)) BK109.out (by decide)) BK128.out (by decide)) (fun k_ hk => ⟨⟨hk.1.1.1.1, ⟨hk.1.1.2, ⟨hk.1.2, hk.2⟩⟩⟩, hk.1.1.1.2⟩)) (Kd.R_mono (HO_129004.out) (fun k_ hk => ⟨⟨hk.1, ⟨hk.2.2.2.1, ⟨hk.2.2.2.2.1, hk.2.2.2.2.2⟩⟩⟩, hk.2.1⟩))); (case aB => exact (by repeat (first | (with_reducible first | exact HB.out | apply below_alloc | apply pw_below_drewN | apply below_drew1 | refine below_set ?_ GE108.out | refine below_set ?_ GE109.out | refine below_set ?_ GE128.out) | exact HB.out))); (case aF => exact (fun k_ hk => ⟨Kd.fresh' (Kd.R_lt (by (with_reducible repeat (first | apply Kd.R_alloc | apply Kd.R_drewN | apply Kd.R_drew)); exact HO_110002.out)) k_ hk, Kd.freshB (g := gb108) (o := .cells #[.int .i64 x109000_33, .string x109001_33, .slice none 0 0, .bool x109003_33, .slice none 0 0] 30 (0, 0)) (by (with_reducible repeat (first | refine blk_drewN ?_ _ | refine blk_drew ?_ | refine blk_alloc ?_ _)); exact BK108.out) k_ hk, Kd.freshB (g := gb109) (o := .cells #[.int .i64 x110000_5, .string (⟨#[]⟩ : ByteArray), u110002, .bool false, u110004] 30 (0, 0)) (by (with_reducible repeat (first | refine blk_drewN ?_ _ | refine blk_drew ?_ | refine blk_alloc ?_ _)); exact BK109.out) k_ hk, Kd.freshB (g := gb128) (o := .cells #[.int .i64 t117, .string t118, .slice Ao56 t119.length co56, .bool t122, .slice Ao57 t123.length co57] 30 (0, 0)) (by (with_reducible repeat (first | refine blk_drewN ?_ _ | refine blk_drew ?_ | refine blk_alloc ?_ _)); exact BK128.out) k_ hk⟩)); (case aO => exact (by (with_reducible repeat (first | apply Kd.R_alloc | apply Kd.R_drewN | apply Kd.R_drew)); exact Kd.R_mono HO_110004.out (fun _ hk => ⟨hk.1, ⟨hk.2.2.2.1, ⟨hk.2.2.2.2.1, hk.2.2.2.2.2⟩⟩⟩))); (case aS => exact (below_size (by repeat (first | (with_reducible first | exact HB.out | apply below_alloc | apply pw_below_drewN | apply below_drew1 | refine below_set ?_ GE108.out | refine below_set ?_ GE109.out | refine below_set ?_ GE128.out) | exact HB.out)))); (case aL => have := LMc68.out; omega); intro v131 w78 ho hb hg hat; rw [← Ny130.out] at ho; have n0_ := Aside0.mk (Kd.R_over' (by (with_reducible repeat (first | apply Kd.R_alloc | apply Kd.R_drewN | apply Kd.R_drew)); exact HO_110002.out) (Kd.R_typed (by (with_reducible repeat (first | apply Kd.R_alloc | apply Kd.R_drewN | apply Kd.R_drew)); exact HO_110004.out)) (by decide) hg); have n1_ := Aside0.mk (blk_grown (g := gb108) (o := .cells #[.int .i64 x109000_33, .string x109001_33, .slice none 0 0, .bool x109003_33, .slice none 0 0] 30 (0, 0)) (by (with_reducible repeat (first | refine blk_drewN ?_ _ | refine blk_drew ?_ | refine blk_alloc ?_ _)); exact BK108.out) hg (Kd.R_away HO_110004.out (fun _ hk => hk.2.2.2.1))); have n2_ := Aside0.mk (blk_grown (g := gb109) (o := .cells #[.int .i64 x110000_5, .string (⟨#[]⟩ : ByteArray), u110002, .bool false, u110004] 30 (0, 0)) (by (with_reducible repeat (first | refine blk_drewN ?_ _ | refine blk_drew ?_ | refine blk_alloc ?_ _)); exact BK109.out) hg (Kd.R_away HO_110004.out (fun _ hk => hk.2.2.2.2.1))); have n3_ := Aside0.mk (blk_grown (g := gb128) (o := .cells #[.int .i64 t117, .string t118, .slice Ao56 t119.length co56, .bool t122, .slice Ao57 t123.length co57] 30 (0, 0)) (by (with_reducible repeat (first | refine blk_drewN ?_ _ | refine blk_drew ?_ | refine blk_alloc ?_ _)); exact BK128.out) hg (Kd.R_away HO_110004.out (fun _ hk => hk.2.2.2.2.2))); have n4_ := Aside0.mk (hb); have n5_ := Aside0.mk (ho); clear HO_110002; clear BK108; clear BK109; clear BK128; clear HB; clear HO_110004; clear HO_129002; clear HO_129004; have HO_110002 := n0_; have BK108 := n1_; have BK109 := n2_; have BK128 := n3_; have HB := n4_; have HO132 := n5_; clear n0_ n1_ n2_ n3_ n4_ n5_; clear ho hb hg hat; obtain ⟨Ao79, co79, eo79⟩ := Kd.R_slice HO132.out; subst eo79; have hcz80_0 : w78.cell? ⟨gb109, 0, none⟩ = some (.int .i64 x110000_5) := (blk_cell BK109.out 0).trans rfl; have hcz80_1 : w78.cell? ⟨gb109, 1, none⟩ = some (.string (⟨#[]⟩ : ByteArray)) := (blk_cell BK109.out 1).trans rfl; have hcz80_2 : w78.cell? ⟨gb109, 2, none⟩ = some (u110002) := (blk_cell BK109.out 2).trans rfl; have hcz80_3 : w78.cell? ⟨gb109, 3, none⟩ = some (.bool false) := (blk_cell BK109.out 3).trans rfl; have hcz80_4 : w78.cell? ⟨gb109, 4, none⟩ = some (u110004) := (blk_cell BK109.out 4).trans rfl; have hfz80_0 := blk_frozen BK109.out 0; have hfz80_1 := blk_frozen BK109.out 1; have hfz80_2 := blk_frozen BK109.out 2; have hfz80_3 := blk_frozen BK109.out 3; have hfz80_4 := blk_frozen BK109.out 4; have p70 : 0 ≤ (0 : Int) := (by omega); have q70 : 0 < t129.size := (by have : (0 : Int) < (t129.size : Int) := of_decide_eq_true (by assumption); omega); have hx70 : ∀ h : 0 < t129.size, ((t129[0]'h).toNat : Int) = bt t129 0 := bt_at t129 0; clear p70; have qi70 : (0 < (t129.size : Int)) = True := eq_true (of_decide_eq_true (by assumption)); replace q70 := eq_true q70))
                 have n0_ : Aside0 (Kd.R Kd.string 9 (w78.setCell ⟨gb109, 4, none⟩ (.slice Ao79 y130.length co79)) w.heap.size (fun _ => True) u110002 x110002_33) := ⟨by (with_reducible repeat (first | apply Kd.R_alloc | apply Kd.R_drewN | apply Kd.R_drew)); exact Kd.R_mono (Kd.R_far (p := ⟨gb109, 4, none⟩) (Kd.R_types HO_110002.out BK109.out (by decide)) (fun _ hk => hk.2) (.slice Ao79 y130.length co79)) (fun _ hk => trivial)⟩
                 have n1_ : Aside0 (Kd.R k30 30 (w78.setCell ⟨gb109, 4, none⟩ (.slice Ao79 y130.length co79)) w.heap.size (fun k_ => some k_ ≠ (u110002 : Value).ownBlock ∧ k_ ≠ gb108 ∧ k_ ≠ gb109 ∧ k_ ≠ gb128) (.slice Ao79 y130.length co79) y130) := ⟨by (with_reducible repeat (first | apply Kd.R_alloc | apply Kd.R_drewN | apply Kd.R_drew)); exact Kd.R_mono (Kd.R_far (p := ⟨gb109, 4, none⟩) (Kd.R_mono HO132.out (fun k_ hk => (⟨hk, hk.2.2.1⟩ : _ ∧ k_ ≠ gb109))) (fun _ hk => hk.2) (.slice Ao79 y130.length co79)) (fun _ hk => ⟨hk.1.1, ⟨hk.1.2.1, ⟨hk.1.2.2.1, hk.1.2.2.2⟩⟩⟩)⟩
                 have n2_ : Aside0 ((w78.setCell ⟨gb109, 4, none⟩ (.slice Ao79 y130.length co79)).heap[gb108]? = some (.cells #[.int .i64 x109000_33, .string x109001_33, .slice none 0 0, .bool x109003_33, .slice none 0 0] 30 (0, 0))) := ⟨by (with_reducible repeat (first | refine blk_drewN ?_ _ | refine blk_drew ?_ | refine blk_alloc ?_ _)); refine blk_far ?_ NB108_109.out _; (with_reducible repeat (first | refine blk_drewN ?_ _ | refine blk_drew ?_ | refine blk_alloc ?_ _)); exact BK108.out⟩
                 have n3_ : Aside0 ((w78.setCell ⟨gb109, 4, none⟩ (.slice Ao79 y130.length co79)).heap[gb109]? = some (.cells #[.int .i64 x110000_5, .string (⟨#[]⟩ : ByteArray), u110002, .bool false, .slice Ao79 y130.length co79] 30 (0, 0))) := ⟨by (with_reducible repeat (first | refine blk_drewN ?_ _ | refine blk_drew ?_ | refine blk_alloc ?_ _)); refine blk_put (cs := #[.int .i64 x110000_5, .string (⟨#[]⟩ : ByteArray), u110002, .bool false, u110004]) ?_ 4 _ rfl; (with_reducible repeat (first | refine blk_drewN ?_ _ | refine blk_drew ?_ | refine blk_alloc ?_ _)); exact BK109.out⟩
                 have n4_ : Aside0 ((w78.setCell ⟨gb109, 4, none⟩ (.slice Ao79 y130.length co79)).heap[gb128]? = some (.cells #[.int .i64 t117, .string t118, .slice Ao56 t119.length co56, .bool t122, .slice Ao57 t123.length co57] 30 (0, 0))) := ⟨by (with_reducible repeat (first | refine blk_drewN ?_ _ | refine blk_drew ?_ | refine blk_alloc ?_ _)); refine blk_far ?_ NB128_109.out _; (with_reducible repeat (first | refine blk_drewN ?_ _ | refine blk_drew ?_ | refine blk_alloc ?_ _)); exact BK128.out⟩
                 have n5_ : Aside0 (Below w.heap.size w (w78.setCell ⟨gb109, 4, none⟩ (.slice Ao79 y130.length co79))) := ⟨by repeat (first | (with_reducible first | exact HB.out | apply below_alloc | apply pw_below_drewN | apply below_drew1 | refine below_set ?_ GE108.out | refine below_set ?_ GE109.out | refine below_set ?_ GE128.out) | exact HB.out)⟩
                 (try clear HO_110002)
                 (try clear HO132)
                 (try clear BK108)
                 (try clear BK109)
                 (try clear BK128)
                 (try clear HB)
                 generalize (w78.setCell ⟨gb109, 4, none⟩ (.slice Ao79 y130.length co79)) = w81 at n0_ n1_ n2_ n3_ n4_ n5_ ⊢
                 have HO_110002 := n0_
                 have HO132 := n1_
                 have BK108 := n2_
                 have BK109 := n3_
                 have BK128 := n4_
                 have HB := n5_
                 clear n0_ n1_ n2_ n3_ n4_ n5_
                 have n0_ := Aside0.mk (Kd.R_drew HO_110002.out)
                 have n1_ := Aside0.mk (Kd.R_drew HO132.out)
                 have n2_ := Aside0.mk (blk_drew BK108.out)
                 have n3_ := Aside0.mk (blk_drew BK109.out)
                 have n4_ := Aside0.mk (blk_drew BK128.out)
                 have n5_ := Aside0.mk (below_drew1 HB.out)
                 clear HO_110002
                 clear HO132
                 clear BK108
                 clear BK109
                 clear BK128
                 clear HB
                 have HO_110002 := n0_
                 have HO132 := n1_
                 have BK108 := n2_
                 have BK109 := n3_
                 have BK128 := n4_
                 have HB := n5_
                 clear n0_ n1_ n2_ n3_ n4_ n5_
                 obtain ⟨Ao85, co85, eo85⟩ := Kd.R_slice HO_110002.out
                 (first | subst eo85 | (injection eo85 with f1_ f2_ f3_; have f4_ := f1_.symm; have f5_ := f3_.symm; clear f1_ f2_ f3_; subst f4_; subst f5_))
                 refine start_ (n := 6) (S := fun w' => w'.cell? ⟨gb109, 0, none⟩ = some (.int .i64 x110000_5) ∧ w'.cell? ⟨gb109, 1, none⟩ = some (.string (⟨#[]⟩ : ByteArray)) ∧ w'.cell? ⟨gb109, 2, none⟩ = some (.slice Ao85 x110002_33.length co85) ∧ w'.cell? ⟨gb109, 3, none⟩ = some (.bool false) ∧ w'.cell? ⟨gb109, 4, none⟩ = some (.slice Ao79 y130.length co79)) (ds := []) #[false, false, false, false, false, false] (by kernel_rfl) rfl rfl ⟨(blk_cell BK109.out 0).trans rfl, (blk_cell BK109.out 1).trans rfl, (blk_cell BK109.out 2).trans rfl, (blk_cell BK109.out 3).trans rfl, (blk_cell BK109.out 4).trans rfl⟩ (fun hHeld => ?_)
                 generalize w81.drew = w82 at HO_110002 HO132 BK108 BK109 BK128 HB hHeld ⊢
                 refine pure_ (i := 1) (N := some 95) (v := ?_) (a' := ?_) #[false, true, false, false, false, false] rfl rfl (by kernel_rfl) (fun _ _ _ h => h) (Or.inl ⟨by rfl, ?_⟩) ?_ ?_
                 rotate_left
                 ·intro w'
                  go_simp
                  with_reducible rfl
                 rotate_left
                 ·simp only [Act.put, List.setIfInBounds_toArray, List.set_cons_zero, List.set_cons_succ, i64_w, i32_w]
                  rfl
                 refine pure_ (i := 2) (N := some 96) (v := ?_) (a' := ?_) #[false, true, true, false, false, false] rfl rfl (by kernel_rfl) (fun _ _ _ h => h) (Or.inl ⟨by rfl, ?_⟩) ?_ ?_
                 rotate_left
                 ·intro w'
                  go_simp
                  with_reducible rfl
                 rotate_left
                 ·simp only [Act.put, List.setIfInBounds_toArray, List.set_cons_zero, List.set_cons_succ, i64_w, i32_w]
                  rfl
                 refine take_ (i := 0) (N := some 94) (v := ?_) (a' := ?_) #[true, true, true, false, false, false] rfl rfl (by kernel_rfl) (fun _ _ _ h => h) (Or.inl ⟨by rfl, ?_⟩) hHeld ?_ ?_
                 rotate_left
                 ·rintro w' ⟨s0, s1, s2, s3, s4⟩
                  go_simp
                  with_reducible rfl
                 rotate_left
                 ·simp only [Act.put, List.setIfInBounds_toArray, List.set_cons_zero, List.set_cons_succ, i64_w, i32_w]
                  rfl
                 refine one_ (i := 3) (N := none) #[true, true, true, true, false, false] rfl rfl (by kernel_rfl) (by decide) (fun K hK => ?_)
                 have hs83 : w82.cell? ⟨gb108, 0, none⟩ = some (.int .i64 x109000_33) := (blk_cell BK108.out 0).trans rfl
                 have hfs83 := blk_frozen BK108.out 0
                 have hns83_1 := NB109_108.out
                 have hns83_2 := NB128_108.out
                 have hms83_1 := NB108_109.out
                 have hms83_2 := NB108_128.out
                 have hs84 : w82.cell? ⟨gb108, 1, none⟩ = some (.string x109001_33) := (blk_cell BK108.out 1).trans rfl
                 have hfs84 := blk_frozen BK108.out 1
                 have hns84_1 := NB109_108.out
                 have hns84_2 := NB128_108.out
                 have hms84_1 := NB108_109.out
                 have hms84_2 := NB108_128.out
                 have hs86 : w82.cell? ⟨gb108, 2, none⟩ = some (.slice none 0 0) := (blk_cell BK108.out 2).trans rfl
                 have hfs86 := blk_frozen BK108.out 2
                 have hns86_1 := NB109_108.out
                 have hns86_2 := NB128_108.out
                 have hms86_1 := NB108_109.out
                 have hms86_2 := NB108_128.out
                 have hs87 : w82.cell? ⟨gb108, 3, none⟩ = some (.bool x109003_33) := (blk_cell BK108.out 3).trans rfl
                 have hfs87 := blk_frozen BK108.out 3
                 have hns87_1 := NB109_108.out
                 have hns87_2 := NB128_108.out
                 have hms87_1 := NB108_109.out
                 have hms87_2 := NB108_128.out
                 have hs88 : w82.cell? ⟨gb108, 4, none⟩ = some (.slice none 0 0) := (blk_cell BK108.out 4).trans rfl
                 have hfs88 := blk_frozen BK108.out 4
                 have hns88_1 := NB109_108.out
                 have hns88_2 := NB128_108.out
                 have hms88_1 := NB108_109.out
                 have hms88_2 := NB108_128.out
                 refine skip_ (w1 := ?_) (by rfl) rfl ?_ ?_
                 rotate_left
                 ·go_simp
                  rfl
                 refine hK.out _ _ ⟨((cell_far (p := ⟨gb108, _, none⟩) NB109_108.out _).trans (((cell_far (p := ⟨gb108, _, none⟩) NB109_108.out _).trans (((cell_far (p := ⟨gb108, _, none⟩) NB109_108.out _).trans (((cell_far (p := ⟨gb108, _, none⟩) NB109_108.out _).trans (((cell_far (p := ⟨gb108, _, none⟩) NB109_108.out _).trans (hHeld.1)))))))))), ((cell_far (p := ⟨gb108, _, none⟩) NB109_108.out _).trans (((cell_far (p := ⟨gb108, _, none⟩) NB109_108.out _).trans (((cell_far (p := ⟨gb108, _, none⟩) NB109_108.out _).trans (((cell_far (p := ⟨gb108, _, none⟩) NB109_108.out _).trans (((cell_far (p := ⟨gb108, _, none⟩) NB109_108.out _).trans (hHeld.2.1)))))))))), ((cell_far (p := ⟨gb108, _, none⟩) NB109_108.out _).trans (((cell_far (p := ⟨gb108, _, none⟩) NB109_108.out _).trans (((cell_far (p := ⟨gb108, _, none⟩) NB109_108.out _).trans (((cell_far (p := ⟨gb108, _, none⟩) NB109_108.out _).trans (((cell_far (p := ⟨gb108, _, none⟩) NB109_108.out _).trans (hHeld.2.2.1)))))))))), ((cell_far (p := ⟨gb108, _, none⟩) NB109_108.out _).trans (((cell_far (p := ⟨gb108, _, none⟩) NB109_108.out _).trans (((cell_far (p := ⟨gb108, _, none⟩) NB109_108.out _).trans (((cell_far (p := ⟨gb108, _, none⟩) NB109_108.out _).trans (((cell_far (p := ⟨gb108, _, none⟩) NB109_108.out _).trans (hHeld.2.2.2.1)))))))))), ((cell_far (p := ⟨gb108, _, none⟩) NB109_108.out _).trans (((cell_far (p := ⟨gb108, _, none⟩) NB109_108.out _).trans (((cell_far (p := ⟨gb108, _, none⟩) NB109_108.out _).trans (((cell_far (p := ⟨gb108, _, none⟩) NB109_108.out _).trans (((cell_far (p := ⟨gb108, _, none⟩) NB109_108.out _).trans (hHeld.2.2.2.2))))))))))⟩ (fun hHeld => ?_)
                 clear hK K
                 refine pure_ (i := 4) (N := some 5) (v := ?_) (a' := ?_) #[true, true, true, true, true, false] rfl rfl (by kernel_rfl) (fun _ _ _ h => h) (Or.inl ⟨by rfl, ?_⟩) ?_ ?_
                 rotate_left
                 ·intro w'
                  go_simp
                  with_reducible rfl
                 rotate_left
                 ·simp only [Act.put, List.setIfInBounds_toArray, List.set_cons_zero, List.set_cons_succ, i64_w, i32_w]
                  rfl
                 refine pure_ (i := 5) (N := some 6) (v := ?_) (a' := ?_) #[true, true, true, true, true, true] rfl rfl (by kernel_rfl) (fun _ _ _ h => h) (Or.inl ⟨by rfl, ?_⟩) ?_ ?_
                 rotate_left
                 ·intro w'
                  go_simp
                  with_reducible rfl
                 rotate_left
                 ·simp only [Act.put, List.setIfInBounds_toArray, List.set_cons_zero, List.set_cons_succ, i64_w, i32_w]
                  rfl
                 refine done_ (by kernel_rfl) ?_
                 try go_wp2
                 refine bodyPost_ret (results_ctt rfl _ _ gb108 30 #[.int .i64 x110000_5, .string (⟨#[]⟩ : ByteArray), .slice Ao85 x110002_33.length co85, .bool false, .slice Ao79 y130.length co79] (0, 0) _ rfl (by (with_reducible repeat (first | refine blk_drewN ?_ _ | refine blk_drew ?_ | refine blk_alloc ?_ _)); refine blk_put (cs := #[.int .i64 x110000_5, .string (⟨#[]⟩ : ByteArray), .slice Ao85 x110002_33.length co85, .bool false, .slice none 0 0]) ?_ 4 _ rfl; (with_reducible repeat (first | refine blk_drewN ?_ _ | refine blk_drew ?_ | refine blk_alloc ?_ _)); refine blk_put (cs := #[.int .i64 x110000_5, .string (⟨#[]⟩ : ByteArray), .slice Ao85 x110002_33.length co85, .bool x109003_33, .slice none 0 0]) ?_ 3 _ rfl; (with_reducible repeat (first | refine blk_drewN ?_ _ | refine blk_drew ?_ | refine blk_alloc ?_ _)); refine blk_put (cs := #[.int .i64 x110000_5, .string (⟨#[]⟩ : ByteArray), .slice none 0 0, .bool x109003_33, .slice none 0 0]) ?_ 2 _ rfl; (with_reducible repeat (first | refine blk_drewN ?_ _ | refine blk_drew ?_ | refine blk_alloc ?_ _)); refine blk_put (cs := #[.int .i64 x110000_5, .string x109001_33, .slice none 0 0, .bool x109003_33, .slice none 0 0]) ?_ 1 _ rfl; (with_reducible repeat (first | refine blk_drewN ?_ _ | refine blk_drew ?_ | refine blk_alloc ?_ _)); refine blk_put (cs := #[.int .i64 x109000_33, .string x109001_33, .slice none 0 0, .bool x109003_33, .slice none 0 0]) ?_ 0 _ rfl; (with_reducible repeat (first | refine blk_drewN ?_ _ | refine blk_drew ?_ | refine blk_alloc ?_ _)); exact BK108.out) Tryd.underlying30 rfl (by kernel_rfl)) rfl ?_
                 exact ⟨_, _, by first | rfl | (simp [errW_none, errW_some] <;> rfl) | (simp [*, errW_none, errW_some] <;> rfl) | (simp [errW_none, errW_some] <;> exact ⟨rfl, rfl⟩) | (simp [*, errW_none, errW_some] <;> exact ⟨rfl, rfl⟩), by (with_reducible repeat (first | apply Kd.R_alloc | apply Kd.R_drewN | apply Kd.R_drew)); exact Kd.R_mono (Kd.R_far (p := ⟨gb108, 4, none⟩) (Kd.R_far (p := ⟨gb108, 3, none⟩) (Kd.R_far (p := ⟨gb108, 2, none⟩) (Kd.R_far (p := ⟨gb108, 1, none⟩) (Kd.R_far (p := ⟨gb108, 0, none⟩) (Kd.R_types HO_110002.out BK108.out (by decide)) (fun _ hk => hk.2) (.int .i64 x110000_5)) (fun _ hk => hk.2) (.string (⟨#[]⟩ : ByteArray))) (fun _ hk => hk.2) (.slice Ao85 x110002_33.length co85)) (fun _ hk => hk.2) (.bool false)) (fun _ hk => hk.2) (.slice Ao79 y130.length co79)) (fun _ hk => trivial), by (with_reducible repeat (first | apply Kd.R_alloc | apply Kd.R_drewN | apply Kd.R_drew)); exact Kd.R_mono (Kd.R_far (p := ⟨gb108, 4, none⟩) (Kd.R_far (p := ⟨gb108, 3, none⟩) (Kd.R_far (p := ⟨gb108, 2, none⟩) (Kd.R_far (p := ⟨gb108, 1, none⟩) (Kd.R_far (p := ⟨gb108, 0, none⟩) (Kd.R_mono HO132.out (fun k_ hk => (⟨hk, hk.2.1⟩ : _ ∧ k_ ≠ gb108))) (fun _ hk => hk.2) (.int .i64 x110000_5)) (fun _ hk => hk.2) (.string (⟨#[]⟩ : ByteArray))) (fun _ hk => hk.2) (.slice Ao85 x110002_33.length co85)) (fun _ hk => hk.2) (.bool false)) (fun _ hk => hk.2) (.slice Ao79 y130.length co79)) (fun _ hk => hk.1.1), by repeat (first | (with_reducible first | exact HB.out | apply below_alloc | apply pw_below_drewN | apply below_drew1 | refine below_set ?_ GE108.out | refine below_set ?_ GE109.out | refine below_set ?_ GE128.out) | exact HB.out)⟩
                rw [if_neg c72] at H
                exact absurd H (by simp)
               rw [if_neg c71] at H
               have c71b0 : ((bt t129 0) == (((bt a0 0) + 2) % 256)) = false := beq_eq_false_iff_ne.mpr c71
               have c71b1 : ((bt t129 0) != (((bt a0 0) + 2) % 256)) = true := bne_iff_ne.mpr c71
               by_cases c89 : 1 ≤ (t129.size : Int)
               ·rw [if_pos c89] at H
                have c89b0 := eq_true c89
                have c89b1 : decide (1 ≤ (t129.size : Int)) = true := decide_eq_true c89
                clear c89
                obtain ⟨js90, hjs90⟩ : ∃ z_ : ByteArray, (t129.extract 1 t129.size) = z_ := ⟨_, rfl⟩
                replace H : ((spec_skipped.f kj49 js90).bind fun t133 => (spec_fjList.l0 kj49 t133 a1 (((bt a0 0) + 2) % 256) x110000_5 (⟨#[]⟩ : ByteArray) x110002_33 false y130)) = some (r1, r2, r3, r4, r5, r6, r7) := by first | (rw [hjs90] at H; exact H) | (simp only [hjs90] at H ⊢; exact H)
                replace H := Option.bind_eq_some_iff.mp H
                obtain ⟨t133, A910, H⟩ := H
                replace H : (spec_fjList.l0 kj49 t133 a1 (((bt a0 0) + 2) % 256) x110000_5 (⟨#[]⟩ : ByteArray) x110002_33 false y130) = some (r1, r2, r3, r4, r5, r6, r7) := H
                have A91 := Aside0.mk A910
                clear A910
                have H' := Aside0.mk H
                clear H
                have hnb92 := NB109_108.out
                have hnc92 := NB108_109.out
                have hnb93 := NB109_128.out
                have hnc93 := NB128_109.out
                have hcz94_0 : wc.cell? ⟨gb109, 0, none⟩ = some (.int .i64 x110000_5) := (blk_cell BK109.out 0).trans rfl
                have hcz94_1 : wc.cell? ⟨gb109, 1, none⟩ = some (.string (⟨#[]⟩ : ByteArray)) := (blk_cell BK109.out 1).trans rfl
                have hcz94_2 : wc.cell? ⟨gb109, 2, none⟩ = some (u110002) := (blk_cell BK109.out 2).trans rfl
                have hcz94_3 : wc.cell? ⟨gb109, 3, none⟩ = some (.bool false) := (blk_cell BK109.out 3).trans rfl
                have hcz94_4 : wc.cell? ⟨gb109, 4, none⟩ = some (u110004) := (blk_cell BK109.out 4).trans rfl
                have hfz94_0 := blk_frozen BK109.out 0
                have hfz94_1 := blk_frozen BK109.out 1
                have hfz94_2 := blk_frozen BK109.out 2
                have hfz94_3 := blk_frozen BK109.out 3
                have hfz94_4 := blk_frozen BK109.out 4
                have hnb95 := NB128_108.out
                have hnc95 := NB108_128.out
                have hcz96_0 : wc.cell? ⟨gb128, 0, none⟩ = some (.int .i64 t117) := (blk_cell BK128.out 0).trans rfl
                have hcz96_1 : wc.cell? ⟨gb128, 1, none⟩ = some (.string t118) := (blk_cell BK128.out 1).trans rfl
                have hcz96_2 : wc.cell? ⟨gb128, 2, none⟩ = some (.slice Ao56 t119.length co56) := (blk_cell BK128.out 2).trans rfl
                have hcz96_3 : wc.cell? ⟨gb128, 3, none⟩ = some (.bool t122) := (blk_cell BK128.out 3).trans rfl
                have hcz96_4 : wc.cell? ⟨gb128, 4, none⟩ = some (.slice Ao57 t123.length co57) := (blk_cell BK128.out 4).trans rfl
                have hfz96_0 := blk_frozen BK128.out 0
                have hfz96_1 := blk_frozen BK128.out 1
                have hfz96_2 := blk_frozen BK128.out 2
                have hfz96_3 := blk_frozen BK128.out 3
                have hfz96_4 := blk_frozen BK128.out 4
                go_wp2_with (first | ((with_reducible refine gate_builtin (b := .append) (xs := #[.tmp 85, .tmp 87]) rfl ?_); at_builtin; refine Kd.R_append k30 (w0 := w) w.heap.size rfl (.tmp 85) (.tmp 87) 28 30 (.agg #[(.int .i64 0), (.string ⟨#[]⟩), (.slice none 0 0), (.bool false), (.slice none 0 0)]) 80 rfl Tryd.underlying28 info30 rfl (by decide) (by omega) u110004 x110004_3 (⟨t117, t118, t119, t122, t123⟩ : S30) [.int .i64 t117, .string t118, .slice Ao56 t119.length co56, .bool t122, .slice Ao57 t123.length co57] (fun k_ => some k_ ≠ (u110002 : Value).ownBlock ∧ k_ ≠ gb108 ∧ k_ ≠ gb109 ∧ k_ ≠ gb128) (fun k_ => ((fun k_ => some k_ ≠ (u110002 : Value).ownBlock ∧ k_ ≠ gb108 ∧ k_ ≠ gb109 ∧ k_ ≠ gb128)) k_ ∧ some k_ ≠ (u110004 : Value).ownBlock) rfl rfl ?aP (fun _ hk => hk) ?aF ?aO ?aB ?aS ?aL ?_; (case aP => exact k30_mkM _ _ _ (⟨t117, t118, t119, t122, t123⟩ : S30) (Kd.R_mono (Kd.R_types (Kd.R_types (Kd.R_types (Kd.R_apart' (HO_129002.out) (Kd.R_typed HO_110004.out) (by decide)) BK108.out (by decide)) BK109.out (by decide)) BK128.out (by decide)) (fun k_ hk => ⟨⟨hk.1.1.1.1, ⟨hk.1.1.2, ⟨hk.1.2, hk.2⟩⟩⟩, hk.1.1.1.2⟩)) (Kd.R_mono (HO_129004.out) (fun k_ hk => ⟨⟨hk.1, ⟨hk.2.2.2.1, ⟨hk.2.2.2.2.1, hk.2.2.2.2.2⟩⟩⟩, hk.2.1⟩))); (case aB => exact (by repeat (first | (with_reducible first | exact HB.out | apply below_alloc | apply pw_below_drewN | apply below_drew1 | refine below_set ?_ GE108.out | refine below_set ?_ GE109.out | refine below_set ?_ GE128.out) | exact HB.out))); (case aF => exact (fun k_ hk => ⟨Kd.fresh' (Kd.R_lt (by (with_reducible repeat (first | apply Kd.R_alloc | apply Kd.R_drewN | apply Kd.R_drew)); exact HO_110002.out)) k_ hk, Kd.freshB (g := gb108) (o := .cells #[.int .i64 x109000_33, .string x109001_33, .slice none 0 0, .bool x109003_33, .slice none 0 0] 30 (0, 0)) (by (with_reducible repeat (first | refine blk_drewN ?_ _ | refine blk_drew ?_ | refine blk_alloc ?_ _)); exact BK108.out) k_ hk, Kd.freshB (g := gb109) (o := .cells #[.int .i64 x110000_5, .string (⟨#[]⟩ : ByteArray), u110002, .bool false, u110004] 30 (0, 0)) (by (with_reducible repeat (first | refine blk_drewN ?_ _ | refine blk_drew ?_ | refine blk_alloc ?_ _)); exact BK109.out) k_ hk, Kd.freshB (g := gb128) (o := .cells #[.int .i64 t117, .string t118, .slice Ao56 t119.length co56, .bool t122, .slice Ao57 t123.length co57] 30 (0, 0)) (by (with_reducible repeat (first | refine blk_drewN ?_ _ | refine blk_drew ?_ | refine blk_alloc ?_ _)); exact BK128.out) k_ hk⟩)); (case aO => exact (by (with_reducible repeat (first | apply Kd.R_alloc | apply Kd.R_drewN | apply Kd.R_drew)); exact Kd.R_mono HO_110004.out (fun _ hk => ⟨hk.1, ⟨hk.2.2.2.1, ⟨hk.2.2.2.2.1, hk.2.2.2.2.2⟩⟩⟩))); (case aS => exact (below_size (by repeat (first | (with_reducible first | exact HB.out | apply below_alloc | apply pw_below_drewN | apply below_drew1 | refine below_set ?_ GE108.out | refine below_set ?_ GE109.out | refine below_set ?_ GE128.out) | exact HB.out)))); (case aL => have := LMc68.out; omega); intro v131 w97 ho hb hg hat; rw [← Ny130.out] at ho; have n0_ := Aside0.mk (Kd.R_over' (by (with_reducible repeat (first | apply Kd.R_alloc | apply Kd.R_drewN | apply Kd.R_drew)); exact HO_110002.out) (Kd.R_typed (by (with_reducible repeat (first | apply Kd.R_alloc | apply Kd.R_drewN | apply Kd.R_drew)); exact HO_110004.out)) (by decide) hg); have n1_ := Aside0.mk (blk_grown (g := gb108) (o := .cells #[.int .i64 x109000_33, .string x109001_33, .slice none 0 0, .bool x109003_33, .slice none 0 0] 30 (0, 0)) (by (with_reducible repeat (first | refine blk_drewN ?_ _ | refine blk_drew ?_ | refine blk_alloc ?_ _)); exact BK108.out) hg (Kd.R_away HO_110004.out (fun _ hk => hk.2.2.2.1))); have n2_ := Aside0.mk (blk_grown (g := gb109) (o := .cells #[.int .i64 x110000_5, .string (⟨#[]⟩ : ByteArray), u110002, .bool false, u110004] 30 (0, 0)) (by (with_reducible repeat (first | refine blk_drewN ?_ _ | refine blk_drew ?_ | refine blk_alloc ?_ _)); exact BK109.out) hg (Kd.R_away HO_110004.out (fun _ hk => hk.2.2.2.2.1))); have n3_ := Aside0.mk (blk_grown (g := gb128) (o := .cells #[.int .i64 t117, .string t118, .slice Ao56 t119.length co56, .bool t122, .slice Ao57 t123.length co57] 30 (0, 0)) (by (with_reducible repeat (first | refine blk_drewN ?_ _ | refine blk_drew ?_ | refine blk_alloc ?_ _)); exact BK128.out) hg (Kd.R_away HO_110004.out (fun _ hk => hk.2.2.2.2.2))); have n4_ := Aside0.mk (hb); have n5_ := Aside0.mk (ho); clear HO_110002; clear BK108; clear BK109; clear BK128; clear HB; clear HO_110004; clear HO_129002; clear HO_129004; have HO_110002 := n0_; have BK108 := n1_; have BK109 := n2_; have BK128 := n3_; have HB := n4_; have HO132 := n5_; clear n0_ n1_ n2_ n3_ n4_ n5_; clear ho hb hg hat; obtain ⟨Ao98, co98, eo98⟩ := Kd.R_slice HO132.out; subst eo98; have hcz99_0 : w97.cell? ⟨gb109, 0, none⟩ = some (.int .i64 x110000_5) := (blk_cell BK109.out 0).trans rfl; have hcz99_1 : w97.cell? ⟨gb109, 1, none⟩ = some (.string (⟨#[]⟩ : ByteArray)) := (blk_cell BK109.out 1).trans rfl; have hcz99_2 : w97.cell? ⟨gb109, 2, none⟩ = some (u110002) := (blk_cell BK109.out 2).trans rfl; have hcz99_3 : w97.cell? ⟨gb109, 3, none⟩ = some (.bool false) := (blk_cell BK109.out 3).trans rfl; have hcz99_4 : w97.cell? ⟨gb109, 4, none⟩ = some (u110004) := (blk_cell BK109.out 4).trans rfl; have hfz99_0 := blk_frozen BK109.out 0; have hfz99_1 := blk_frozen BK109.out 1; have hfz99_2 := blk_frozen BK109.out 2; have hfz99_3 := blk_frozen BK109.out 3; have hfz99_4 := blk_frozen BK109.out 4; have p70 : 0 ≤ (0 : Int) := (by omega); have q70 : 0 < t129.size := (by have : (0 : Int) < (t129.size : Int) := of_decide_eq_true (by assumption); omega); have hx70 : ∀ h : 0 < t129.size, ((t129[0]'h).toNat : Int) = bt t129 0 := bt_at t129 0; clear p70; have qi70 : (0 < (t129.size : Int)) = True := eq_true (of_decide_eq_true (by assumption)); replace q70 := eq_true q70; try have hcs100 := fun W_ : World => run_slice_string_l (P := Tryd.prog) W_ 9 t129 Tryd.underlying9 .i64 1 (by omega) (of_decide_eq_true (by assumption)); (try simp only [hjs90] at hcs100)) | ((with_reducible refine gate_callee (f := 26) rfl ?_); refine goesL_ (some 99) rfl rfl Tryd.func26 (by kernel_rfl) rfl #[.string js90] rfl (by (try simp only [List.map_toArray, List.map_cons, List.map_nil]); first | done | rfl | (simp only [List.length_drop, List.length_take]; rfl)) ?_; (with_reducible refine (spec_skipped.calls kj49 js90 t133 _ A91.out).mono ?_); rintro e w' ⟨rfl, ⟨nd, rfl⟩⟩; refine ⟨_, rfl, ?_⟩))
                go_roundg kj49
                case measure => have := HJ5.out; have := HJ20.out; have := HK3.out; have := HJ33.out; have := HJ49.out; omega
                case rel => exact ⟨(t133), (x109000_33), (x109001_33), (x109003_33), (x110002_33), (y130), (u110002), (.slice Ao98 y130.length co98), (by first | rfl | (simp; done) | (simp [*]; done)), H', ⟨by have := HJ5.out; have := HJ20.out; have := HK3.out; have := HJ33.out; have := HJ49.out; omega⟩, ⟨by (with_reducible repeat (first | apply Kd.R_alloc | apply Kd.R_drewN | apply Kd.R_drew)); exact Kd.R_mono (Kd.R_far (p := ⟨gb109, 4, none⟩) (Kd.R_types HO_110002.out BK109.out (by decide)) (fun _ hk => hk.2) (.slice Ao98 y130.length co98)) (fun _ hk => trivial)⟩, ⟨by (with_reducible repeat (first | apply Kd.R_alloc | apply Kd.R_drewN | apply Kd.R_drew)); exact Kd.R_mono (Kd.R_far (p := ⟨gb109, 4, none⟩) (Kd.R_mono HO132.out (fun k_ hk => (⟨hk, hk.2.2.1⟩ : _ ∧ k_ ≠ gb109))) (fun _ hk => hk.2) (.slice Ao98 y130.length co98)) (fun _ hk => ⟨hk.1.1, ⟨hk.1.2.1, hk.1.2.2.1⟩⟩)⟩, ⟨by (with_reducible repeat (first | refine blk_drewN ?_ _ | refine blk_drew ?_ | refine blk_alloc ?_ _)); refine blk_far ?_ NB108_109.out _; (with_reducible repeat (first | refine blk_drewN ?_ _ | refine blk_drew ?_ | refine blk_alloc ?_ _)); exact BK108.out⟩, ⟨by (with_reducible repeat (first | refine blk_drewN ?_ _ | refine blk_drew ?_ | refine blk_alloc ?_ _)); refine blk_put (cs := #[.int .i64 x110000_5, .string (⟨#[]⟩ : ByteArray), u110002, .bool false, u110004]) ?_ 4 _ rfl; (with_reducible repeat (first | refine blk_drewN ?_ _ | refine blk_drew ?_ | refine blk_alloc ?_ _)); exact BK109.out⟩, ⟨by repeat (first | (with_reducible first | exact HB.out | apply below_alloc | apply pw_below_drewN | apply below_drew1 | refine below_set ?_ GE108.out | refine below_set ?_ GE109.out | refine below_set ?_ GE128.out) | exact HB.out)⟩⟩
               rw [if_neg c89] at H
               exact absurd H (by simp)
              rw [if_neg c69] at H
              exact absurd H (by simp)
             rw [if_neg c68] at H
             exact absurd H (by simp)
    rw [if_neg c18] at H
    exact absurd H (by simp)
 rw [if_neg c3] at H
 exact absurd H (by simp)
end Go.Proofs.YtnajijaachgipaaDoor.PR
end
section
namespace Go.Proofs.YtnajijaachgipaaDoor.PR
open Go.RowKit Go.Proofs.YtnajijaachgipaaDoorW.PrintWords Go.Proofs.YtnajijaachgipaaDoorW.PrintLast Go.Proofs.YtnajijaachgipaaDoorW.PrintMore
attribute [local go_sem] max2_int min2_int max_two min_two max_three min_three max_four min_four   -- for this text's walks alone
set_option linter.unusedVariables false
set_option linter.unusedSimpArgs false
/-! ### spec_BeginFj: function 25 -/
def spec_BeginFj.T11 : Bool × List (List Nat × List Nat) := (true, [([], []), ([], []), ([1], [1]), ([0, 2], [0, 2]), ([3], [3]), ([], []), ([], []), ([6], [6]), ([5, 7], [5, 7]), ([4, 0, 1, 2, 3, 4], [4]), ([8, 9, 0, 1, 2, 3, 4, 5, 6, 7, 8, 9], [8]), ([10, 0, 1, 2, 3, 4, 5, 6, 7, 8, 9, 10], [])])
def spec_BeginFj.B11 : List Nat := [0, 0, 2, 7, 15, 0, 0, 64, 224, 31, 1023, 2047]
theorem spec_BeginFj.tab11 : rtab .any (opsOf Tryd.f25 11) = spec_BeginFj.T11 := by kernel_rfl
theorem spec_BeginFj.bits11 : waitsOk spec_BeginFj.T11.2 spec_BeginFj.B11 = true := by kernel_rfl
def spec_BeginFj.T18 : Bool × List (List Nat × List Nat) := (true, [([], []), ([0], [0]), ([], []), ([], []), ([3], [3]), ([2, 4], [2, 4]), ([1, 0, 1], [1]), ([5, 6, 0, 1, 2, 3, 4, 5, 6], [5]), ([7, 0, 1, 2, 3, 4, 5, 6, 7], [])])
def spec_BeginFj.B18 : List Nat := [0, 1, 0, 0, 8, 28, 3, 127, 255]
theorem spec_BeginFj.tab18 : rtab .any (opsOf Tryd.f25 18) = spec_BeginFj.T18 := by kernel_rfl
theorem spec_BeginFj.bits18 : waitsOk spec_BeginFj.T18.2 spec_BeginFj.B18 = true := by kernel_rfl
def spec_BeginFj.T21 : Bool × List (List Nat × List Nat) := (true, [([], []), ([], []), ([0, 1], [0, 1]), ([2], [2]), ([], []), ([], []), ([4, 5], [4, 5]), ([], []), ([7], [7]), ([3, 0, 1, 2, 3], [3]), ([6, 9, 0, 1, 2, 3, 4, 5, 6, 9], [6]), ([8, 10, 0, 1, 2, 3, 4, 5, 6, 7, 8, 9, 10], [8])])
def spec_BeginFj.B21 : List Nat := [0, 0, 3, 7, 0, 0, 48, 0, 128, 15, 639, 2047]
theorem spec_BeginFj.tab21 : rtab .any (opsOf Tryd.f25 21) = spec_BeginFj.T21 := by kernel_rfl
theorem spec_BeginFj.bits21 : waitsOk spec_BeginFj.T21.2 spec_BeginFj.B21 = true := by kernel_rfl
set_option maxHeartbeats 8000000 in
set_option maxRecDepth 100000 in
theorem spec_BeginFj.calls_scc (k : Nat) (ih_43 : ∀ j_, j_ < k → ∀ (a0 : ByteArray) (a1 : Int) (r1 : Int) (r2 : ByteArray) (r3 : List ByteArray) (r4 : Bool) (r5 : List (S30)) (r6 : ByteArray) (r7 : Bool) (w : World) (h : spec_fjList.f j_ a0 a1 = some (r1, r2, r3, r4, r5, r6, r7)),
  Calls Tryd.prog 43 #[.string a0, .int .i64 a1] w fun e w' => ∃ v2_ v4_ : Value, e = .returned (.tuple #[.agg #[.int .i64 r1, .string r2, v2_, .bool r4, v4_], .string r6, .bool r7]) ∧ Kd.R Kd.string 9 w' w.heap.size (fun _ => True) v2_ r3 ∧ Kd.R k30 30 w' w.heap.size (fun k_ => some k_ ≠ (v2_ : Value).ownBlock) v4_ r5 ∧ Below w.heap.size w w') (ih_25 : ∀ j_, j_ < k → ∀ (a0 : ByteArray) (a1 : Int) (r1 : Int) (r2 : ByteArray) (r3 : List ByteArray) (r4 : Bool) (r5 : List (S30)) (r6 : ByteArray) (r7 : Bool) (w : World) (h : spec_BeginFj.f j_ a0 a1 = some (r1, r2, r3, r4, r5, r6, r7)),
  Calls Tryd.prog 25 #[.string a0, .int .i64 a1] w fun e w' => ∃ v2_ v4_ : Value, e = .returned (.tuple #[.agg #[.int .i64 r1, .string r2, v2_, .bool r4, v4_], .string r6, .bool r7]) ∧ Kd.R Kd.string 9 w' w.heap.size (fun _ => True) v2_ r3 ∧ Kd.R k30 30 w' w.heap.size (fun k_ => some k_ ≠ (v2_ : Value).ownBlock) v4_ r5 ∧ Below w.heap.size w w') : ∀ (a0 : ByteArray) (a1 : Int) (r1 : Int) (r2 : ByteArray) (r3 : List ByteArray) (r4 : Bool) (r5 : List (S30)) (r6 : ByteArray) (r7 : Bool) (w : World) (h : spec_BeginFj.f k a0 a1 = some (r1, r2, r3, r4, r5, r6, r7)),
  Calls Tryd.prog 25 #[.string a0, .int .i64 a1] w fun e w' => ∃ v2_ v4_ : Value, e = .returned (.tuple #[.agg #[.int .i64 r1, .string r2, v2_, .bool r4, v4_], .string r6, .bool r7]) ∧ Kd.R Kd.string 9 w' w.heap.size (fun _ => True) v2_ r3 ∧ Kd.R k30 30 w' w.heap.size (fun k_ => some k_ ≠ (v2_ : Value).ownBlock) v4_ r5 ∧ Below w.heap.size w w' := by
 intro a0 a1 r1 r2 r3 r4 r5 r6 r7 w h
 cases k with
 | zero => exact absurd h (by simp [spec_BeginFj.f])
 | succ k =>
 simp only [spec_BeginFj.f] at h
 have hu30 := Tryd.underlying30
 have HB := Aside0.mk (Below.refl w.heap.size w)
 have H : (if a0.toList = ([] : List UInt8) then (spec_BeginFj.j0 k a0 a1 true) else (spec_BeginFj.j0 k a0 a1 (decide (a1 ≥ 300)))) = some (r1, r2, r3, r4, r5, r6, r7) := h
 clear h
 have HC3 := Aside0.mk H
 clear H
 go_enter Tryd.func25, Tryd.ntmps25
 go_upto_region 1 with (first | ((with_reducible refine gate_dst (N := 4) rfl ?_); (try (refine gate_guard (by rfl) ?_; dsimp only)); refine box_event ?hg (N := 4) ?hd (cs := #[.int .i64 0, .string (⟨#[]⟩ : ByteArray), .slice none 0 0, .bool false, .slice none 0 0]) (t := 30) ?hr ?_; (case hd => rfl); (case hg => rfl); (case hr => first | (go_simp; done) | (go_simp; rfl)); intro gb134 hg w4 hbox hb; have n0_ := Aside0.mk (below_step (by repeat (first | (with_reducible first | exact HB.out | apply below_alloc | apply pw_below_drewN | apply below_drew1) | exact HB.out)) hb); have n1_ := Aside0.mk (hbox); have n2_ := Aside0.mk ((by rw [hg]; exact (below_size (by repeat (first | (with_reducible first | exact HB.out | apply below_alloc | apply pw_below_drewN | apply below_drew1) | exact HB.out))) : w.heap.size ≤ gb134)); have n3_ := Aside0.mk ((by rw [hg]; exact (below_size (by repeat (first | (with_reducible first | exact HB.out | apply below_alloc | apply pw_below_drewN | apply below_drew1) | exact HB.out))) : w.heap.size ≤ gb134)); clear HB; have HB := n0_; have BK134 := n1_; have GW134 := n2_; have GE134 := n3_; clear n0_ n1_ n2_ n3_; clear hb hbox hg))
 (try simp only [Act.put, List.setIfInBounds_toArray, List.set_cons_zero, List.set_cons_succ])
 go_cut [17] (fun v17 wc => ∃ (kq : Nat) (x17_2 : Bool), v17 = .bool x17_2 ∧ Aside0 (spec_BeginFj.j0 kq a0 a1 x17_2 = some (r1, r2, r3, r4, r5, r6, r7)) ∧ Aside0 (kq ≤ k) ∧ Aside0 (wc.heap[gb134]? = some (.cells #[.int .i64 0, .string (⟨#[]⟩ : ByteArray), (.slice none 0 0), .bool false, (.slice none 0 0)] 30 (0, 0))) ∧ Aside0 (Below w.heap.size w wc))
 case first =>
  have H := HC3.out
  clear HC3
  by_cases c5 : a0.toList = ([] : List UInt8)
  ·rw [if_pos c5] at H
   have c5b0 : (a0.toList == ([] : List UInt8)) = true := beq_iff_eq.mpr c5
   have c5b1 : (a0.toList != ([] : List UInt8)) = false := bne_eq_false_iff_eq.mpr c5
   clear c5
   (first | rw [c5b0] | (simp only [i64_w, i32_w]; rw [c5b0]) | rw [c5b1] | skip)
   have H' := Aside0.mk H
   clear H
   go_wp2
   go_meet
   case rel => exact ⟨_, (true), (by first | rfl | (simp; done) | (simp [*]; done)), H', ⟨by first | omega | exact Nat.le_refl _⟩, ⟨by (with_reducible repeat (first | refine blk_drewN ?_ _ | refine blk_drew ?_ | refine blk_alloc ?_ _)); exact BK134.out⟩, ⟨by repeat (first | (with_reducible first | exact HB.out | apply below_alloc | apply pw_below_drewN | apply below_drew1 | refine below_set ?_ GE134.out) | exact HB.out)⟩⟩
  rw [if_neg c5] at H
  have c5b0 : (a0.toList == ([] : List UInt8)) = false := beq_eq_false_iff_ne.mpr c5
  have c5b1 : (a0.toList != ([] : List UInt8)) = true := bne_iff_ne.mpr c5
  (first | rw [c5b0] | (simp only [i64_w, i32_w]; rw [c5b0]) | rw [c5b1] | skip)
  have H' := Aside0.mk H
  clear H
  go_wp2
  go_meet
  case rel => exact ⟨_, (decide (a1 ≥ 300)), (by first | rfl | (simp; done) | (simp [*]; done)), H', ⟨by first | omega | exact Nat.le_refl _⟩, ⟨by (with_reducible repeat (first | refine blk_drewN ?_ _ | refine blk_drew ?_ | refine blk_alloc ?_ _)); exact BK134.out⟩, ⟨by repeat (first | (with_reducible first | exact HB.out | apply below_alloc | apply pw_below_drewN | apply below_drew1 | refine below_set ?_ GE134.out) | exact HB.out)⟩⟩
 case rest =>
  clear HC3
  try clear c2
  try clear p2
  try clear c5
  try clear c5b0
  try clear c5b1
  obtain ⟨kq, x17_2, rfl, HA, HJ2, BK134, HB⟩ := hcut
  cases kq with
  | zero => exact absurd HA.out (by simp [spec_BeginFj.j0])
  | succ kj2 =>
   have H := HA.out
   clear HA
   simp only [spec_BeginFj.j0] at H
   by_cases c6 : x17_2 = true
   ·subst c6
    have H1 : (some (0, (⟨#[]⟩ : ByteArray), ([] : List ByteArray), false, ([] : List (S30)), (⟨#[]⟩ : ByteArray), false)) = some (r1, r2, r3, r4, r5, r6, r7) := by rw [if_pos rfl] at H; exact H
    clear H
    have H := H1
    clear H1
    simp only [Option.some.injEq, Prod.mk.injEq] at H
    obtain ⟨rfl, rfl, rfl, rfl, rfl, rfl, rfl⟩ := H
    have hcz7_0 : wc.cell? ⟨gb134, 0, none⟩ = some (.int .i64 0) := (blk_cell BK134.out 0).trans rfl
    have hcz7_1 : wc.cell? ⟨gb134, 1, none⟩ = some (.string (⟨#[]⟩ : ByteArray)) := (blk_cell BK134.out 1).trans rfl
    have hcz7_2 : wc.cell? ⟨gb134, 2, none⟩ = some (.slice none 0 0) := (blk_cell BK134.out 2).trans rfl
    have hcz7_3 : wc.cell? ⟨gb134, 3, none⟩ = some (.bool false) := (blk_cell BK134.out 3).trans rfl
    have hcz7_4 : wc.cell? ⟨gb134, 4, none⟩ = some (.slice none 0 0) := (blk_cell BK134.out 4).trans rfl
    have hfz7_0 := blk_frozen BK134.out 0
    have hfz7_1 := blk_frozen BK134.out 1
    have hfz7_2 := blk_frozen BK134.out 2
    have hfz7_3 := blk_frozen BK134.out 3
    have hfz7_4 := blk_frozen BK134.out 4
    go_wp2
    refine bodyPost_ret (results_ctt rfl _ _ gb134 30 #[.int .i64 0, .string (⟨#[]⟩ : ByteArray), .slice none 0 0, .bool false, .slice none 0 0] (0, 0) _ rfl (by (with_reducible repeat (first | refine blk_drewN ?_ _ | refine blk_drew ?_ | refine blk_alloc ?_ _)); refine blk_put (cs := #[.int .i64 0, .string (⟨#[]⟩ : ByteArray), .slice none 0 0, .bool false, .slice none 0 0]) ?_ 4 _ rfl; (with_reducible repeat (first | refine blk_drewN ?_ _ | refine blk_drew ?_ | refine blk_alloc ?_ _)); refine blk_put (cs := #[.int .i64 0, .string (⟨#[]⟩ : ByteArray), .slice none 0 0, .bool false, .slice none 0 0]) ?_ 3 _ rfl; (with_reducible repeat (first | refine blk_drewN ?_ _ | refine blk_drew ?_ | refine blk_alloc ?_ _)); refine blk_put (cs := #[.int .i64 0, .string (⟨#[]⟩ : ByteArray), .slice none 0 0, .bool false, .slice none 0 0]) ?_ 2 _ rfl; (with_reducible repeat (first | refine blk_drewN ?_ _ | refine blk_drew ?_ | refine blk_alloc ?_ _)); refine blk_put (cs := #[.int .i64 0, .string (⟨#[]⟩ : ByteArray), .slice none 0 0, .bool false, .slice none 0 0]) ?_ 1 _ rfl; (with_reducible repeat (first | refine blk_drewN ?_ _ | refine blk_drew ?_ | refine blk_alloc ?_ _)); refine blk_put (cs := #[.int .i64 0, .string (⟨#[]⟩ : ByteArray), .slice none 0 0, .bool false, .slice none 0 0]) ?_ 0 _ rfl; (with_reducible repeat (first | refine blk_drewN ?_ _ | refine blk_drew ?_ | refine blk_alloc ?_ _)); exact BK134.out) Tryd.underlying30 rfl (by kernel_rfl)) rfl ?_
    exact ⟨_, _, by first | rfl | (simp [errW_none, errW_some] <;> rfl) | (simp [*, errW_none, errW_some] <;> rfl) | (simp [errW_none, errW_some] <;> exact ⟨rfl, rfl⟩) | (simp [*, errW_none, errW_some] <;> exact ⟨rfl, rfl⟩), by first | exact Kd.R_nil _ _ _ _ _ | exact Kd.N_nil _ _ _ _ _ | exact Kd.V_nil _ _ _ _ _ | exact Kd.Q_nil _ _ _ _ _ | exact Kd.S_nil _ _ _ _ _, by first | exact Kd.R_nil _ _ _ _ _ | exact Kd.N_nil _ _ _ _ _ | exact Kd.V_nil _ _ _ _ _ | exact Kd.Q_nil _ _ _ _ _ | exact Kd.S_nil _ _ _ _ _, by repeat (first | (with_reducible first | exact HB.out | apply below_alloc | apply pw_below_drewN | apply below_drew1 | refine below_set ?_ GE134.out) | exact HB.out)⟩
   replace c6 := Bool.eq_false_iff.mpr c6
   subst c6
   have H1 : (if 0 < (a0.size : Int) then (if (bt a0 0) = 123 then (spec_BeginFj.j1 kj2 a0 a1 (bt a0 0) ((bt a0 0) == 123)) else (spec_BeginFj.j1 kj2 a0 a1 (bt a0 0) ((bt a0 0) == 91))) else (none)) = some (r1, r2, r3, r4, r5, r6, r7) := by rw [if_neg (show ¬ (false = true) by decide)] at H; exact H
   clear H
   have H := H1
   clear H1
   by_cases c8 : 0 < (a0.size : Int)
   ·rw [if_pos c8] at H
    have c8b0 : decide (0 < (a0.size : Int)) = true := decide_eq_true c8
    have c8b1 : decide (0 < a0.size) = true := decide_eq_true (by omega)
    clear c8
    have HC10 := Aside0.mk H
    clear H
    have p9 : 0 ≤ (0 : Int) := (by omega)
    have q9 : 0 < a0.size := (by have : (0 : Int) < (a0.size : Int) := of_decide_eq_true (by assumption); omega)
    have hx9 : ∀ h : 0 < a0.size, ((a0[0]'h).toNat : Int) = bt a0 0 := bt_at a0 0
    clear p9
    have qi9 : (0 < (a0.size : Int)) = True := eq_true (of_decide_eq_true (by assumption))
    replace q9 := eq_true q9
    go_upto_if 21 with (fail)
    go_cut [21] (fun v21 wc => ∃ (kq : Nat) (x21_9 : Bool), v21 = .bool x21_9 ∧ Aside0 (spec_BeginFj.j1 kq a0 a1 (bt a0 0) x21_9 = some (r1, r2, r3, r4, r5, r6, r7)) ∧ Aside0 (kq ≤ kj2) ∧ Aside0 (wc.heap[gb134]? = some (.cells #[.int .i64 0, .string (⟨#[]⟩ : ByteArray), (.slice none 0 0), .bool false, (.slice none 0 0)] 30 (0, 0))) ∧ Aside0 (Below w.heap.size w wc))
    case first =>
     have H := HC10.out
     clear HC10
     by_cases c11 : (bt a0 0) = 123
     ·rw [if_pos c11] at H
      have c11b0 : ((bt a0 0) == 123) = true := beq_iff_eq.mpr c11
      have c11b1 : ((bt a0 0) != 123) = false := bne_eq_false_iff_eq.mpr c11
      clear c11
      (first | rw [c11b0] | (simp only [i64_w, i32_w]; rw [c11b0]) | rw [c11b1] | skip)
      have H' := Aside0.mk H
      clear H
      go_wp2
      go_meet
      case rel => exact ⟨_, (((bt a0 0) == 123)), (by first | rfl | (simp; done) | (simp [*]; done)), H', ⟨by have := HJ2.out; first | omega | exact Nat.le_refl _⟩, ⟨by (with_reducible repeat (first | refine blk_drewN ?_ _ | refine blk_drew ?_ | refine blk_alloc ?_ _)); exact BK134.out⟩, ⟨by repeat (first | (with_reducible first | exact HB.out | apply below_alloc | apply pw_below_drewN | apply below_drew1 | refine below_set ?_ GE134.out) | exact HB.out)⟩⟩
     rw [if_neg c11] at H
     have c11b0 : ((bt a0 0) == 123) = false := beq_eq_false_iff_ne.mpr c11
     have c11b1 : ((bt a0 0) != 123) = true := bne_iff_ne.mpr c11
     (first | rw [c11b0] | (simp only [i64_w, i32_w]; rw [c11b0]) | rw [c11b1] | skip)
     have H' := Aside0.mk H
     clear H
     go_wp2
     go_meet
     case rel => exact ⟨_, (((bt a0 0) == 91)), (by first | rfl | (simp; done) | (simp [*]; done)), H', ⟨by have := HJ2.out; first | omega | exact Nat.le_refl _⟩, ⟨by (with_reducible repeat (first | refine blk_drewN ?_ _ | refine blk_drew ?_ | refine blk_alloc ?_ _)); exact BK134.out⟩, ⟨by repeat (first | (with_reducible first | exact HB.out | apply below_alloc | apply pw_below_drewN | apply below_drew1 | refine below_set ?_ GE134.out) | exact HB.out)⟩⟩
    case rest =>
     clear HC10
     try clear c1
     try clear c2
     try clear p2
     try clear c5
     try clear c5b0
     try clear c5b1
     try clear c6
     try clear c8
     try clear c8b0
     try clear c8b1
     try clear p9
     try clear q9
     try clear hx9
     try clear qi9
     try clear c11
     try clear c11b0
     try clear c11b1
     try clear hcz7_0
     try clear hcz7_1
     try clear hcz7_2
     try clear hcz7_3
     try clear hcz7_4
     try clear hfz7_0
     try clear hfz7_1
     try clear hfz7_2
     try clear hfz7_3
     try clear hfz7_4
     try clear p2
     try clear p9
     try clear q9
     obtain ⟨kq, x21_9, rfl, HA, HJ9, BK134, HB⟩ := hcut
     cases kq with
     | zero => exact absurd HA.out (by simp [spec_BeginFj.j1])
     | succ kj9 =>
      have H := HA.out
      clear HA
      simp only [spec_BeginFj.j1] at H
      by_cases c12 : x21_9 = true
      ·subst c12
       have H1 : ((spec_fjList.f kj9 a0 a1).bind fun bt135 => (some (bt135.1, bt135.2.1, bt135.2.2.1, bt135.2.2.2.1, bt135.2.2.2.2.1, bt135.2.2.2.2.2.1, bt135.2.2.2.2.2.2))) = some (r1, r2, r3, r4, r5, r6, r7) := by rw [if_pos rfl] at H; exact H
       clear H
       have H := H1
       clear H1
       replace H := Option.bind_eq_some_iff.mp H
       obtain ⟨⟨t135, t136, t137, t140, t141, t144, t145⟩, A130, H⟩ := H
       replace H : (some (t135, t136, t137, t140, t141, t144, t145)) = some (r1, r2, r3, r4, r5, r6, r7) := H
       have A13 := Aside0.mk A130
       clear A130
       simp only [Option.some.injEq, Prod.mk.injEq] at H
       obtain ⟨rfl, rfl, rfl, rfl, rfl, rfl, rfl⟩ := H
       go_wp2_with (first | ((with_reducible refine gate_callee (f := 43) rfl ?_); refine goesL_ (some 26) rfl rfl Tryd.func43 (by kernel_rfl) rfl #[.string a0, .int .i64 a1] rfl (by (try simp only [List.map_toArray, List.map_cons, List.map_nil]); first | done | rfl | (simp only [List.length_drop, List.length_take]; rfl)) ?_; (with_reducible refine (ih_43 kj9 (by have := HJ2.out; have := HJ9.out; omega) a0 a1 t135 t136 t137 t140 t141 t144 t145 _ A13.out).mono ?_); rintro e w14 ⟨v138, v142, rfl, ho0, ho1, hb⟩; refine ⟨_, rfl, ?_⟩; have n0_ := Aside0.mk (Kd.R_lower ho0 (below_size (by repeat (first | (with_reducible first | exact HB.out | apply below_alloc | apply pw_below_drewN | apply below_drew1 | refine below_set ?_ GE134.out) | exact HB.out)))); have n1_ := Aside0.mk (Kd.R_lower (Kd.R_newB ho1 (g := gb134) (o := .cells #[.int .i64 0, .string (⟨#[]⟩ : ByteArray), .slice none 0 0, .bool false, .slice none 0 0] 30 (0, 0)) (by (with_reducible repeat (first | refine blk_drewN ?_ _ | refine blk_drew ?_ | refine blk_alloc ?_ _)); exact BK134.out)) (below_size (by repeat (first | (with_reducible first | exact HB.out | apply below_alloc | apply pw_below_drewN | apply below_drew1 | refine below_set ?_ GE134.out) | exact HB.out)))); have n2_ := Aside0.mk (blk_below (g := gb134) (o := .cells #[.int .i64 0, .string (⟨#[]⟩ : ByteArray), .slice none 0 0, .bool false, .slice none 0 0] 30 (0, 0)) (by (with_reducible repeat (first | refine blk_drewN ?_ _ | refine blk_drew ?_ | refine blk_alloc ?_ _)); exact BK134.out) hb); have n3_ := Aside0.mk (below_step (by repeat (first | (with_reducible first | exact HB.out | apply below_alloc | apply pw_below_drewN | apply below_drew1 | refine below_set ?_ GE134.out) | exact HB.out)) hb); clear BK134; clear HB; have HO139 := n0_; have HO143 := n1_; have BK134 := n2_; have HB := n3_; clear n0_ n1_ n2_ n3_; (try clear hb); (try clear hb2); (try clear hk); (try clear hi); (try clear ho0); (try clear ho1); have hcz15_0 : w14.cell? ⟨gb134, 0, none⟩ = some (.int .i64 0) := (blk_cell BK134.out 0).trans rfl; have hcz15_1 : w14.cell? ⟨gb134, 1, none⟩ = some (.string (⟨#[]⟩ : ByteArray)) := (blk_cell BK134.out 1).trans rfl; have hcz15_2 : w14.cell? ⟨gb134, 2, none⟩ = some (.slice none 0 0) := (blk_cell BK134.out 2).trans rfl; have hcz15_3 : w14.cell? ⟨gb134, 3, none⟩ = some (.bool false) := (blk_cell BK134.out 3).trans rfl; have hcz15_4 : w14.cell? ⟨gb134, 4, none⟩ = some (.slice none 0 0) := (blk_cell BK134.out 4).trans rfl; have hfz15_0 := blk_frozen BK134.out 0; have hfz15_1 := blk_frozen BK134.out 1; have hfz15_2 := blk_frozen BK134.out 2; have hfz15_3 := blk_frozen BK134.out 3; have hfz15_4 := blk_frozen BK134.out 4; obtain ⟨Ao16, co16, eo16⟩ := Kd.R_slice HO139.out; subst eo16; obtain ⟨Ao17, co17, eo17⟩ := Kd.R_slice HO143.out; subst eo17))
       refine bodyPost_ret (results_ctt rfl _ _ gb134 30 #[.int .i64 t135, .string t136, .slice Ao16 t137.length co16, .bool t140, .slice Ao17 t141.length co17] (0, 0) _ rfl (by (with_reducible repeat (first | refine blk_drewN ?_ _ | refine blk_drew ?_ | refine blk_alloc ?_ _)); refine blk_put (cs := #[.int .i64 t135, .string t136, .slice Ao16 t137.length co16, .bool t140, .slice none 0 0]) ?_ 4 _ rfl; (with_reducible repeat (first | refine blk_drewN ?_ _ | refine blk_drew ?_ | refine blk_alloc ?_ _)); refine blk_put (cs := #[.int .i64 t135, .string t136, .slice Ao16 t137.length co16, .bool false, .slice none 0 0]) ?_ 3 _ rfl; (with_reducible repeat (first | refine blk_drewN ?_ _ | refine blk_drew ?_ | refine blk_alloc ?_ _)); refine blk_put (cs := #[.int .i64 t135, .string t136, .slice none 0 0, .bool false, .slice none 0 0]) ?_ 2 _ rfl; (with_reducible repeat (first | refine blk_drewN ?_ _ | refine blk_drew ?_ | refine blk_alloc ?_ _)); refine blk_put (cs := #[.int .i64 t135, .string (⟨#[]⟩ : ByteArray), .slice none 0 0, .bool false, .slice none 0 0]) ?_ 1 _ rfl; (with_reducible repeat (first | refine blk_drewN ?_ _ | refine blk_drew ?_ | refine blk_alloc ?_ _)); refine blk_put (cs := #[.int .i64 0, .string (⟨#[]⟩ : ByteArray), .slice none 0 0, .bool false, .slice none 0 0]) ?_ 0 _ rfl; (with_reducible repeat (first | refine blk_drewN ?_ _ | refine blk_drew ?_ | refine blk_alloc ?_ _)); exact BK134.out) Tryd.underlying30 rfl (by kernel_rfl)) rfl ?_
       exact ⟨_, _, by first | rfl | (simp [errW_none, errW_some] <;> rfl) | (simp [*, errW_none, errW_some] <;> rfl) | (simp [errW_none, errW_some] <;> exact ⟨rfl, rfl⟩) | (simp [*, errW_none, errW_some] <;> exact ⟨rfl, rfl⟩), by (with_reducible repeat (first | apply Kd.R_alloc | apply Kd.R_drewN | apply Kd.R_drew)); exact Kd.R_mono (Kd.R_far (p := ⟨gb134, 4, none⟩) (Kd.R_far (p := ⟨gb134, 3, none⟩) (Kd.R_far (p := ⟨gb134, 2, none⟩) (Kd.R_far (p := ⟨gb134, 1, none⟩) (Kd.R_far (p := ⟨gb134, 0, none⟩) (Kd.R_types HO139.out BK134.out (by decide)) (fun _ hk => hk.2) (.int .i64 t135)) (fun _ hk => hk.2) (.string t136)) (fun _ hk => hk.2) (.slice Ao16 t137.length co16)) (fun _ hk => hk.2) (.bool t140)) (fun _ hk => hk.2) (.slice Ao17 t141.length co17)) (fun _ hk => trivial), by (with_reducible repeat (first | apply Kd.R_alloc | apply Kd.R_drewN | apply Kd.R_drew)); exact Kd.R_mono (Kd.R_far (p := ⟨gb134, 4, none⟩) (Kd.R_far (p := ⟨gb134, 3, none⟩) (Kd.R_far (p := ⟨gb134, 2, none⟩) (Kd.R_far (p := ⟨gb134, 1, none⟩) (Kd.R_far (p := ⟨gb134, 0, none⟩) (Kd.R_mono HO143.out (fun k_ hk => (⟨hk, hk.2⟩ : _ ∧ k_ ≠ gb134))) (fun _ hk => hk.2) (.int .i64 t135)) (fun _ hk => hk.2) (.string t136)) (fun _ hk => hk.2) (.slice Ao16 t137.length co16)) (fun _ hk => hk.2) (.bool t140)) (fun _ hk => hk.2) (.slice Ao17 t141.length co17)) (fun _ hk => hk.1.1), by repeat (first | (with_reducible first | exact HB.out | apply below_alloc | apply pw_below_drewN | apply below_drew1 | refine below_set ?_ GE134.out) | exact HB.out)⟩
      replace c12 := Bool.eq_false_iff.mpr c12
      subst c12
      have H1 : (if (bt a0 0) = 34 then (if 1 ≤ (a0.size : Int) then ((spec_Closing.f kj9 (a0.extract 1 a0.size)).bind fun t146 => (if t146 < 0 then (some (0, (⟨#[]⟩ : ByteArray), ([] : List ByteArray), false, ([] : List (S30)), (⟨#[]⟩ : ByteArray), false)) else (if 1 ≤ (wrap64 (t146 + 1)) then (if (wrap64 (t146 + 1)) ≤ (a0.size : Int) then (if 0 ≤ (wrap64 (t146 + 2)) then (if (wrap64 (t146 + 2)) ≤ (a0.size : Int) then (some (4, a0.extract 1 ((wrap64 (t146 + 1)) : Int).toNat, ([] : List ByteArray), false, ([] : List (S30)), a0.extract ((wrap64 (t146 + 2)) : Int).toNat a0.size, true)) else (none)) else (none)) else (none)) else (none)))) else (none)) else ((some (([(⟨#[110, 117, 108, 108]⟩ : ByteArray), (⟨#[102, 97, 108, 115, 101]⟩ : ByteArray), (⟨#[116, 114, 117, 101]⟩ : ByteArray)] : List ByteArray) : List ByteArray)).bind fun y147 => (spec_BeginFj.l0 kj9 a0 y147 (y147.length : Int) 0))) = some (r1, r2, r3, r4, r5, r6, r7) := by rw [if_neg (show ¬ (false = true) by decide)] at H; exact H
      clear H
      have H := H1
      clear H1
      by_cases c18 : (bt a0 0) = 34
      ·rw [if_pos c18] at H
       have c18b0 : ((bt a0 0) == 34) = true := beq_iff_eq.mpr c18
       have c18b1 : ((bt a0 0) != 34) = false := bne_eq_false_iff_eq.mpr c18
       clear c18
       by_cases c19 : 1 ≤ (a0.size : Int)
       ·rw [if_pos c19] at H
        have c19b0 := eq_true c19
        have c19b1 : decide (1 ≤ (a0.size : Int)) = true := decide_eq_true c19
        clear c19
        obtain ⟨js20, hjs20⟩ : ∃ z_ : ByteArray, (a0.extract 1 a0.size) = z_ := ⟨_, rfl⟩
        replace H : ((spec_Closing.f kj9 js20).bind fun t146 => (if t146 < 0 then (some (0, (⟨#[]⟩ : ByteArray), ([] : List ByteArray), false, ([] : List (S30)), (⟨#[]⟩ : ByteArray), false)) else (if 1 ≤ (wrap64 (t146 + 1)) then (if (wrap64 (t146 + 1)) ≤ (a0.size : Int) then (if 0 ≤ (wrap64 (t146 + 2)) then (if (wrap64 (t146 + 2)) ≤ (a0.size : Int) then (some (4, a0.extract 1 ((wrap64 (t146 + 1)) : Int).toNat, ([] : List ByteArray), false, ([] : List (S30)), a0.extract ((wrap64 (t146 + 2)) : Int).toNat a0.size, true)) else (none)) else (none)) else (none)) else (none)))) = some (r1, r2, r3, r4, r5, r6, r7) := by first | (rw [hjs20] at H; exact H) | (simp only [hjs20] at H ⊢; exact H)
        replace H := Option.bind_eq_some_iff.mp H
        obtain ⟨t146, A210, H⟩ := H
        replace H : (if t146 < 0 then (some (0, (⟨#[]⟩ : ByteArray), ([] : List ByteArray), false, ([] : List (S30)), (⟨#[]⟩ : ByteArray), false)) else (if 1 ≤ (wrap64 (t146 + 1)) then (if (wrap64 (t146 + 1)) ≤ (a0.size : Int) then (if 0 ≤ (wrap64 (t146 + 2)) then (if (wrap64 (t146 + 2)) ≤ (a0.size : Int) then (some (4, a0.extract 1 ((wrap64 (t146 + 1)) : Int).toNat, ([] : List ByteArray), false, ([] : List (S30)), a0.extract ((wrap64 (t146 + 2)) : Int).toNat a0.size, true)) else (none)) else (none)) else (none)) else (none))) = some (r1, r2, r3, r4, r5, r6, r7) := H
        have A21 := Aside0.mk A210
        clear A210
        by_cases c22 : t146 < 0
        ·rw [if_pos c22] at H
         have c22b0 : decide (t146 < 0) = true := decide_eq_true c22
         clear c22
         simp only [Option.some.injEq, Prod.mk.injEq] at H
         obtain ⟨rfl, rfl, rfl, rfl, rfl, rfl, rfl⟩ := H
         try have hcs23 := fun W_ : World => run_slice_string_l (P := Tryd.prog) W_ 9 a0 Tryd.underlying9 .i64 1 (by omega) (of_decide_eq_true (by assumption))
         (try simp only [hjs20] at hcs23)
         go_wp2_with (first | ((with_reducible refine gate_callee (f := 44) rfl ?_); refine goesL_ (some 34) rfl rfl Tryd.func44 (by kernel_rfl) rfl #[.string js20] rfl (by (try simp only [List.map_toArray, List.map_cons, List.map_nil]); first | done | rfl | (simp only [List.length_drop, List.length_take]; rfl)) ?_; (with_reducible refine (spec_Closing.calls kj9 js20 t146 _ A21.out).mono ?_); rintro e w' ⟨rfl, ⟨nd, rfl⟩⟩; refine ⟨_, rfl, ?_⟩; (try (rw [drewN_self wc]; generalize hq_ : World.drewN wc _ = wc; have n0_ : Aside0 (wc.heap[gb134]? = some (.cells #[.int .i64 0, .string (⟨#[]⟩ : ByteArray), .slice none 0 0, .bool false, .slice none 0 0] 30 (0, 0))) := ⟨by rw [← hq_]; exact (by (with_reducible repeat (first | refine blk_drewN ?_ _ | refine blk_drew ?_ | refine blk_alloc ?_ _)); exact BK134.out)⟩; have n1_ : Aside0 (Below w.heap.size w wc) := ⟨by rw [← hq_]; exact (by repeat (first | (with_reducible first | exact HB.out | apply below_alloc | apply pw_below_drewN | apply below_drew1 | refine below_set ?_ GE134.out) | exact HB.out))⟩; clear BK134 HB hq_; have BK134 := n0_; have HB := n1_; clear n0_ n1_)); have hcz24_0 : wc.cell? ⟨gb134, 0, none⟩ = some (.int .i64 0) := (blk_cell BK134.out 0).trans rfl; have hcz24_1 : wc.cell? ⟨gb134, 1, none⟩ = some (.string (⟨#[]⟩ : ByteArray)) := (blk_cell BK134.out 1).trans rfl; have hcz24_2 : wc.cell? ⟨gb134, 2, none⟩ = some (.slice none 0 0) := (blk_cell BK134.out 2).trans rfl; have hcz24_3 : wc.cell? ⟨gb134, 3, none⟩ = some (.bool false) := (blk_cell BK134.out 3).trans rfl; have hcz24_4 : wc.cell? ⟨gb134, 4, none⟩ = some (.slice none 0 0) := (blk_cell BK134.out 4).trans rfl; have hfz24_0 := blk_frozen BK134.out 0; have hfz24_1 := blk_frozen BK134.out 1; have hfz24_2 := blk_frozen BK134.out 2; have hfz24_3 := blk_frozen BK134.out 3; have hfz24_4 := blk_frozen BK134.out 4))
         refine bodyPost_ret (results_ctt rfl _ _ gb134 30 #[.int .i64 0, .string (⟨#[]⟩ : ByteArray), .slice none 0 0, .bool false, .slice none 0 0] (0, 0) _ rfl (by (with_reducible repeat (first | refine blk_drewN ?_ _ | refine blk_drew ?_ | refine blk_alloc ?_ _)); refine blk_put (cs := #[.int .i64 0, .string (⟨#[]⟩ : ByteArray), .slice none 0 0, .bool false, .slice none 0 0]) ?_ 4 _ rfl; (with_reducible repeat (first | refine blk_drewN ?_ _ | refine blk_drew ?_ | refine blk_alloc ?_ _)); refine blk_put (cs := #[.int .i64 0, .string (⟨#[]⟩ : ByteArray), .slice none 0 0, .bool false, .slice none 0 0]) ?_ 3 _ rfl; (with_reducible repeat (first | refine blk_drewN ?_ _ | refine blk_drew ?_ | refine blk_alloc ?_ _)); refine blk_put (cs := #[.int .i64 0, .string (⟨#[]⟩ : ByteArray), .slice none 0 0, .bool false, .slice none 0 0]) ?_ 2 _ rfl; (with_reducible repeat (first | refine blk_drewN ?_ _ | refine blk_drew ?_ | refine blk_alloc ?_ _)); refine blk_put (cs := #[.int .i64 0, .string (⟨#[]⟩ : ByteArray), .slice none 0 0, .bool false, .slice none 0 0]) ?_ 1 _ rfl; (with_reducible repeat (first | refine blk_drewN ?_ _ | refine blk_drew ?_ | refine blk_alloc ?_ _)); refine blk_put (cs := #[.int .i64 0, .string (⟨#[]⟩ : ByteArray), .slice none 0 0, .bool false, .slice none 0 0]) ?_ 0 _ rfl; (with_reducible repeat (first | refine blk_drewN ?_ _ | refine blk_drew ?_ | refine blk_alloc ?_ _)); exact BK134.out) Tryd.underlying30 rfl (by kernel_rfl)) rfl ?_
         exact ⟨_, _, by first | rfl | (simp [errW_none, errW_some] <;> rfl) | (simp [*, errW_none, errW_some] <;> rfl) | (simp [errW_none, errW_some] <;> exact ⟨rfl, rfl⟩) | (simp [*, errW_none, errW_some] <;> exact ⟨rfl, rfl⟩), by first | exact Kd.R_nil _ _ _ _ _ | exact Kd.N_nil _ _ _ _ _ | exact Kd.V_nil _ _ _ _ _ | exact Kd.Q_nil _ _ _ _ _ | exact Kd.S_nil _ _ _ _ _, by first | exact Kd.R_nil _ _ _ _ _ | exact Kd.N_nil _ _ _ _ _ | exact Kd.V_nil _ _ _ _ _ | exact Kd.Q_nil _ _ _ _ _ | exact Kd.S_nil _ _ _ _ _, by repeat (first | (with_reducible first | exact HB.out | apply below_alloc | apply pw_below_drewN | apply below_drew1 | refine below_set ?_ GE134.out) | exact HB.out)⟩
        rw [if_neg c22] at H
        have c22b0 : decide (t146 < 0) = false := decide_eq_false c22
        clear c22
        by_cases c25 : 1 ≤ (wrap64 (t146 + 1))
        ·rw [if_pos c25] at H
         have c25b0 := eq_true c25
         have c25b1 : decide (1 ≤ (wrap64 (t146 + 1))) = true := decide_eq_true c25
         by_cases c26 : (wrap64 (t146 + 1)) ≤ (a0.size : Int)
         ·rw [if_pos c26] at H
          have c26b0 := eq_true c26
          have c26b1 : decide ((wrap64 (t146 + 1)) ≤ (a0.size : Int)) = true := decide_eq_true c26
          obtain ⟨ji27, hji27⟩ : ∃ j_ : Int, (wrap64 (t146 + 2)) = j_ := ⟨_, rfl⟩
          replace H : (if 0 ≤ (ji27) then (if (ji27) ≤ (a0.size : Int) then (some (4, a0.extract 1 ((wrap64 (t146 + 1)) : Int).toNat, ([] : List ByteArray), false, ([] : List (S30)), a0.extract ((ji27) : Int).toNat a0.size, true)) else (none)) else (none)) = some (r1, r2, r3, r4, r5, r6, r7) := by first | (rw [hji27] at H; exact H) | (simp only [hji27] at H ⊢; exact H)
          (try rw [hji27] at hjs20)
          (try rw [hji27] at A21)
          have hji27w : (IntKind.i64.wrap (t146 + 2)) = ji27 := (i64_w _).trans hji27
          by_cases c28 : 0 ≤ (ji27)
          ·rw [if_pos c28] at H
           have c28b0 := eq_true c28
           have c28b1 : decide (0 ≤ (ji27)) = true := decide_eq_true c28
           clear c28
           by_cases c29 : (ji27) ≤ (a0.size : Int)
           ·rw [if_pos c29] at H
            have c29b0 := eq_true c29
            have c29b1 : decide ((ji27) ≤ (a0.size : Int)) = true := decide_eq_true c29
            clear c29
            simp only [Option.some.injEq, Prod.mk.injEq] at H
            obtain ⟨rfl, rfl, rfl, rfl, rfl, rfl, rfl⟩ := H
            try have hcs30 := fun W_ : World => run_slice_string_l (P := Tryd.prog) W_ 9 a0 Tryd.underlying9 .i64 1 (by omega) (of_decide_eq_true (by assumption))
            (try simp only [hjs20] at hcs30)
            try go_wp2_with (first | ((with_reducible refine gate_callee (f := 44) rfl ?_); refine goesL_ (some 34) rfl rfl Tryd.func44 (by kernel_rfl) rfl #[.string js20] rfl (by (try simp only [List.map_toArray, List.map_cons, List.map_nil]); first | done | rfl | (simp only [List.length_drop, List.length_take]; rfl)) ?_; (with_reducible refine (spec_Closing.calls kj9 js20 t146 _ A21.out).mono ?_); rintro e w' ⟨rfl, ⟨nd, rfl⟩⟩; refine ⟨_, rfl, ?_⟩; (try (rw [drewN_self wc]; generalize hq_ : World.drewN wc _ = wc; have n0_ : Aside0 (wc.heap[gb134]? = some (.cells #[.int .i64 0, .string (⟨#[]⟩ : ByteArray), .slice none 0 0, .bool false, .slice none 0 0] 30 (0, 0))) := ⟨by rw [← hq_]; exact (by (with_reducible repeat (first | refine blk_drewN ?_ _ | refine blk_drew ?_ | refine blk_alloc ?_ _)); exact BK134.out)⟩; have n1_ : Aside0 (Below w.heap.size w wc) := ⟨by rw [← hq_]; exact (by repeat (first | (with_reducible first | exact HB.out | apply below_alloc | apply pw_below_drewN | apply below_drew1 | refine below_set ?_ GE134.out) | exact HB.out))⟩; clear BK134 HB hq_; have BK134 := n0_; have HB := n1_; clear n0_ n1_))))
            have n0_ := Aside0.mk (blk_drew BK134.out)
            have n1_ := Aside0.mk (below_drew1 HB.out)
            clear BK134
            clear HB
            have BK134 := n0_
            have HB := n1_
            clear n0_ n1_
            refine start_ (n := 12) (S := fun w' => True) (ds := []) #[false, false, false, false, false, false, false, false, false, false, false, false] (by kernel_rfl) rfl rfl trivial (fun hHeld => ?_); refine with_tabW spec_BeginFj.tab11 spec_BeginFj.bits11 (fun HT_ HW_ => ?_)
            generalize wc.drew = w31 at BK134 HB hHeld ⊢
            refine pure_ (i := 0) (N := some 38) (v := ?_) (a' := ?_) #[true, false, false, false, false, false, false, false, false, false, false, false] rfl rfl (any_of HT_.out (by kernel_rfl)) (fun _ _ _ h => h) (Or.inl ⟨by rfl, ?_⟩) ?_ ?_
            rotate_left
            ·intro w'
             go_simp
             with_reducible rfl
            rotate_left
            ·simp only [Act.put, List.setIfInBounds_toArray, List.set_cons_zero, List.set_cons_succ, i64_w, i32_w]
             rfl
            refine pure_ (i := 1) (N := some 39) (v := ?_) (a' := ?_) #[true, true, false, false, false, false, false, false, false, false, false, false] rfl rfl (any_of HT_.out (by kernel_rfl)) (fun _ _ _ h => h) (Or.inl ⟨by rfl, ?_⟩) ?_ ?_
            rotate_left
            ·intro w'
             go_simp
             with_reducible rfl
            rotate_left
            ·simp only [Act.put, List.setIfInBounds_toArray, List.set_cons_zero, List.set_cons_succ, i64_w, i32_w]
             rfl
            refine pure_ (i := 2) (N := some 40) (v := ?_) (a' := ?_) #[true, true, true, false, false, false, false, false, false, false, false, false] rfl rfl (any_of HT_.out (by kernel_rfl)) (fun _ _ _ h => h) (Or.inl ⟨by rfl, ?_⟩) ?_ ?_
            rotate_left
            ·intro w'
             go_simp
             with_reducible rfl
            rotate_left
            ·simp only [Act.put, List.setIfInBounds_toArray, List.set_cons_zero, List.set_cons_succ, i64_w, i32_w]
             rfl
            refine pure_ (i := 3) (N := some 41) (v := ?_) (a' := ?_) #[true, true, true, true, false, false, false, false, false, false, false, false] rfl rfl (any_of HT_.out (by kernel_rfl)) (fun _ _ _ h => h) (Or.inl ⟨by rfl, ?_⟩) ?_ ?_
            rotate_left
            ·intro w'
             go_simp
             with_reducible rfl
            rotate_left
            ·simp only [Act.put, List.setIfInBounds_toArray, List.set_cons_zero, List.set_cons_succ, i64_w, i32_w]
             rfl
            refine pure_ (i := 4) (N := some 42) (v := ?_) (a' := ?_) #[true, true, true, true, true, false, false, false, false, false, false, false] rfl rfl (any_of HT_.out (by kernel_rfl)) (fun _ _ _ h => h) (Or.inl ⟨by rfl, ?_⟩) ?_ ?_
            rotate_left
            ·intro w'
             go_simp
             with_reducible rfl
            rotate_left
            ·simp only [Act.put, List.setIfInBounds_toArray, List.set_cons_zero, List.set_cons_succ, i64_w, i32_w]
             rfl
            refine pure_ (i := 5) (N := some 43) (v := ?_) (a' := ?_) #[true, true, true, true, true, true, false, false, false, false, false, false] rfl rfl (any_of HT_.out (by kernel_rfl)) (fun _ _ _ h => h) (Or.inl ⟨by rfl, ?_⟩) ?_ ?_
            rotate_left
            ·intro w'
             go_simp
             with_reducible rfl
            rotate_left
            ·simp only [Act.put, List.setIfInBounds_toArray, List.set_cons_zero, List.set_cons_succ, i64_w, i32_w]
             rfl
            refine pure_ (i := 6) (N := some 44) (v := ?_) (a' := ?_) #[true, true, true, true, true, true, true, false, false, false, false, false] rfl rfl (any_of HT_.out (by kernel_rfl)) (fun _ _ _ h => h) (Or.inl ⟨by rfl, ?_⟩) ?_ ?_
            rotate_left
            ·intro w'
             go_simp
             with_reducible rfl
            rotate_left
            ·simp only [Act.put, List.setIfInBounds_toArray, List.set_cons_zero, List.set_cons_succ, i64_w, i32_w]
             rfl
            refine pure_ (i := 7) (N := some 45) (v := ?_) (a' := ?_) #[true, true, true, true, true, true, true, true, false, false, false, false] rfl rfl (any_of HT_.out (by kernel_rfl)) (fun _ _ _ h => h) (Or.inl ⟨by rfl, ?_⟩) ?_ ?_
            rotate_left
            ·intro w'
             go_simp
             with_reducible rfl
            rotate_left
            ·simp only [Act.put, List.setIfInBounds_toArray, List.set_cons_zero, List.set_cons_succ, i64_w, i32_w]
             rfl
            refine pure_ (i := 8) (N := some 46) (v := ?_) (a' := ?_) #[true, true, true, true, true, true, true, true, true, false, false, false] rfl rfl (any_of HT_.out (by kernel_rfl)) (fun _ _ _ h => h) (Or.inl ⟨by rfl, ?_⟩) ?_ ?_
            rotate_left
            ·intro w'
             go_simp
             with_reducible rfl
            rotate_left
            ·simp only [Act.put, List.setIfInBounds_toArray, List.set_cons_zero, List.set_cons_succ, i64_w, i32_w]
             rfl
            refine one_ (i := 9) (N := none) #[true, true, true, true, true, true, true, true, true, true, false, false] rfl rfl (one_of HT_.out (by kernel_rfl)) (by decide) (fun K hK => ?_)
            have hs32 : w31.cell? ⟨gb134, 0, none⟩ = some (.int .i64 0) := (blk_cell BK134.out 0).trans rfl
            have hfs32 := blk_frozen BK134.out 0
            have hs33 : w31.cell? ⟨gb134, 1, none⟩ = some (.string (⟨#[]⟩ : ByteArray)) := (blk_cell BK134.out 1).trans rfl
            have hfs33 := blk_frozen BK134.out 1
            have hs34 : w31.cell? ⟨gb134, 2, none⟩ = some (.slice none 0 0) := (blk_cell BK134.out 2).trans rfl
            have hfs34 := blk_frozen BK134.out 2
            have hs35 : w31.cell? ⟨gb134, 3, none⟩ = some (.bool false) := (blk_cell BK134.out 3).trans rfl
            have hfs35 := blk_frozen BK134.out 3
            have hs36 : w31.cell? ⟨gb134, 4, none⟩ = some (.slice none 0 0) := (blk_cell BK134.out 4).trans rfl
            have hfs36 := blk_frozen BK134.out 4
            refine skip_ (w1 := ?_) (by rfl) rfl ?_ ?_
            rotate_left
            ·go_simp
             rfl
            refine hK.out _ _ trivial (fun hHeld => ?_)
            clear hK K
            refine pure_ (i := 10) (N := some 5) (v := ?_) (a' := ?_) #[true, true, true, true, true, true, true, true, true, true, true, false] rfl rfl (any_of HT_.out (by kernel_rfl)) (fun _ _ _ h => h) (Or.inl ⟨by rfl, ?_⟩) ?_ ?_
            rotate_left
            ·intro w'
             go_simp
             with_reducible rfl
            rotate_left
            ·simp only [Act.put, List.setIfInBounds_toArray, List.set_cons_zero, List.set_cons_succ, i64_w, i32_w]
             rfl
            refine pure_ (i := 11) (N := some 6) (v := ?_) (a' := ?_) #[true, true, true, true, true, true, true, true, true, true, true, true] rfl rfl (any_of HT_.out (by kernel_rfl)) (fun _ _ _ h => h) (Or.inl ⟨by rfl, ?_⟩) ?_ ?_
            rotate_left
            ·intro w'
             go_simp
             with_reducible rfl
            rotate_left
            ·simp only [Act.put, List.setIfInBounds_toArray, List.set_cons_zero, List.set_cons_succ, i64_w, i32_w]
             rfl
            refine done_ (done_of HT_.out (by kernel_rfl)) ?_
            try go_wp2
            refine bodyPost_ret (results_ctt rfl _ _ gb134 30 #[.int .i64 4, .string (a0.extract 1 ((wrap64 (t146 + 1)) : Int).toNat), .slice none 0 0, .bool false, .slice none 0 0] (0, 0) _ rfl (by (with_reducible repeat (first | refine blk_drewN ?_ _ | refine blk_drew ?_ | refine blk_alloc ?_ _)); refine blk_put (cs := #[.int .i64 4, .string (a0.extract 1 ((wrap64 (t146 + 1)) : Int).toNat), .slice none 0 0, .bool false, .slice none 0 0]) ?_ 4 _ rfl; (with_reducible repeat (first | refine blk_drewN ?_ _ | refine blk_drew ?_ | refine blk_alloc ?_ _)); refine blk_put (cs := #[.int .i64 4, .string (a0.extract 1 ((wrap64 (t146 + 1)) : Int).toNat), .slice none 0 0, .bool false, .slice none 0 0]) ?_ 3 _ rfl; (with_reducible repeat (first | refine blk_drewN ?_ _ | refine blk_drew ?_ | refine blk_alloc ?_ _)); refine blk_put (cs := #[.int .i64 4, .string (a0.extract 1 ((wrap64 (t146 + 1)) : Int).toNat), .slice none 0 0, .bool false, .slice none 0 0]) ?_ 2 _ rfl; (with_reducible repeat (first | refine blk_drewN ?_ _ | refine blk_drew ?_ | refine blk_alloc ?_ _)); refine blk_put (cs := #[.int .i64 4, .string (⟨#[]⟩ : ByteArray), .slice none 0 0, .bool false, .slice none 0 0]) ?_ 1 _ rfl; (with_reducible repeat (first | refine blk_drewN ?_ _ | refine blk_drew ?_ | refine blk_alloc ?_ _)); refine blk_put (cs := #[.int .i64 0, .string (⟨#[]⟩ : ByteArray), .slice none 0 0, .bool false, .slice none 0 0]) ?_ 0 _ rfl; (with_reducible repeat (first | refine blk_drewN ?_ _ | refine blk_drew ?_ | refine blk_alloc ?_ _)); exact BK134.out) Tryd.underlying30 rfl (by kernel_rfl)) rfl ?_
            exact ⟨_, _, by first | rfl | (simp [errW_none, errW_some] <;> rfl) | (simp only [← hji27]; first | rfl | (simp [errW_none, errW_some] <;> rfl)) | (simp [*, errW_none, errW_some] <;> rfl) | (simp [errW_none, errW_some] <;> exact ⟨rfl, rfl⟩) | (simp [*, errW_none, errW_some] <;> exact ⟨rfl, rfl⟩), by first | exact Kd.R_nil _ _ _ _ _ | exact Kd.N_nil _ _ _ _ _ | exact Kd.V_nil _ _ _ _ _ | exact Kd.Q_nil _ _ _ _ _ | exact Kd.S_nil _ _ _ _ _, by first | exact Kd.R_nil _ _ _ _ _ | exact Kd.N_nil _ _ _ _ _ | exact Kd.V_nil _ _ _ _ _ | exact Kd.Q_nil _ _ _ _ _ | exact Kd.S_nil _ _ _ _ _, by repeat (first | (with_reducible first | exact HB.out | apply below_alloc | apply pw_below_drewN | apply below_drew1 | refine below_set ?_ GE134.out) | exact HB.out)⟩
           rw [if_neg c29] at H
           exact absurd H (by simp)
          rw [if_neg c28] at H
          exact absurd H (by simp)
         rw [if_neg c26] at H
         exact absurd H (by simp)
        rw [if_neg c25] at H
        exact absurd H (by simp)
       rw [if_neg c19] at H
       exact absurd H (by simp)
      rw [if_neg c18] at H
      have c18b0 : ((bt a0 0) == 34) = false := beq_eq_false_iff_ne.mpr c18
      have c18b1 : ((bt a0 0) != 34) = true := bne_iff_ne.mpr c18
      obtain ⟨y147, hy147⟩ : ∃ y_ : List ByteArray, y_ = (([(⟨#[110, 117, 108, 108]⟩ : ByteArray), (⟨#[102, 97, 108, 115, 101]⟩ : ByteArray), (⟨#[116, 114, 117, 101]⟩ : ByteArray)] : List ByteArray)) := ⟨_, rfl⟩
      replace H : (spec_BeginFj.l0 kj9 a0 y147 (y147.length : Int) 0) = some (r1, r2, r3, r4, r5, r6, r7) := by first | (rw [hy147]; with_reducible exact H) | (have H2_ := (Option.bind_some _ _).symm.trans H; rw [hy147]; with_reducible exact H2_) | (have H2_ := (Option.bind_some _ _).symm.trans H; with_reducible exact H2_) | with_reducible exact H | (rw [hy147]; exact H) | exact H
      have Ny147 := Aside0.mk hy147
      clear hy147
      have H' := Aside0.mk H
      clear H
      go_wp2_with (first | ((with_reducible refine gate_dst (N := 47) rfl ?_); (try (refine gate_guard (by rfl) ?_; dsimp only)); refine Kd.R_lit Kd.string _ 9 ?hg (N := 47) ?hd (xs := ([(⟨#[110, 117, 108, 108]⟩ : ByteArray), (⟨#[102, 97, 108, 115, 101]⟩ : ByteArray), (⟨#[116, 114, 117, 101]⟩ : ByteArray)] : List ByteArray)) (inner := [.string (⟨#[110, 117, 108, 108]⟩ : ByteArray), .string (⟨#[102, 97, 108, 115, 101]⟩ : ByteArray), .string (⟨#[116, 114, 117, 101]⟩ : ByteArray)]) (ok := fun _ => True) (okp := fun _ => True) ?hr ?hp (fun _ hk => hk) trivial (Below.refl _ _) (Nat.le_refl _) (by simp) ?_; (case hd => rfl); (case hg => rfl); (case hr => first | (go_simp; done) | (go_simp; rfl)); (case hp => exact (Reps.one (show Kd.M Kd.string _ _ _ (⟨#[110, 117, 108, 108]⟩ : ByteArray) [.string (⟨#[110, 117, 108, 108]⟩ : ByteArray)] from rfl) (Reps.one (show Kd.M Kd.string _ _ _ (⟨#[102, 97, 108, 115, 101]⟩ : ByteArray) [.string (⟨#[102, 97, 108, 115, 101]⟩ : ByteArray)] from rfl) (Reps.one (show Kd.M Kd.string _ _ _ (⟨#[116, 114, 117, 101]⟩ : ByteArray) [.string (⟨#[116, 114, 117, 101]⟩ : ByteArray)] from rfl) (Reps.none _ _))))); intro v148 w37 ho38 hb hg_ hnew_; clear hg_ hnew_; (first | rw [← Ny147.out] at ho38 | (simp only [Int.reduceToNat] at ho38; rw [← Ny147.out] at ho38)); have n0_ := Aside0.mk (Kd.R_lower ho38 (below_size (by repeat (first | (with_reducible first | exact HB.out | apply below_alloc | apply pw_below_drewN | apply below_drew1 | refine below_set ?_ GE134.out) | exact HB.out)))); have n1_ := Aside0.mk (blk_below (g := gb134) (o := .cells #[.int .i64 0, .string (⟨#[]⟩ : ByteArray), .slice none 0 0, .bool false, .slice none 0 0] 30 (0, 0)) (by (with_reducible repeat (first | refine blk_drewN ?_ _ | refine blk_drew ?_ | refine blk_alloc ?_ _)); exact BK134.out) hb); have n2_ := Aside0.mk (below_step (by repeat (first | (with_reducible first | exact HB.out | apply below_alloc | apply pw_below_drewN | apply below_drew1 | refine below_set ?_ GE134.out) | exact HB.out)) hb); clear BK134; clear HB; have HO149 := n0_; have BK134 := n1_; have HB := n2_; clear n0_ n1_ n2_; clear hb ho38; obtain ⟨Ao39, co39, eo39⟩ := Kd.R_slice HO149.out; subst eo39))
      try simp only [Act.put, List.setIfInBounds_toArray, List.set_cons_succ, List.set_cons_zero]
      go_loopg [50] kj9 (fun kq v50 w' => ∃ (x50_3 : Int) (x135000_3 : Int) (x135001_3 : ByteArray) (x135003_3 : Bool), v50 = .int .i64 x50_3 ∧ Aside0 (spec_BeginFj.l0 kq a0 y147 (y147.length : Int) x50_3 = some (r1, r2, r3, r4, r5, r6, r7)) ∧ Aside0 (kq ≤ kj9) ∧ Aside0 (Kd.R Kd.string 9 w' w.heap.size (fun _ => True) (.slice Ao39 y147.length co39) y147) ∧ Aside0 (w'.heap[gb134]? = some (.cells #[.int .i64 x135000_3, .string x135001_3, (.slice none 0 0), .bool x135003_3, (.slice none 0 0)] 30 (0, 0))) ∧ Aside0 (Below w.heap.size w w'))
      case atStart => exact ⟨(0), (0), ((⟨#[]⟩ : ByteArray)), (false), (by first | rfl | (simp; done) | (simp [*]; done)), H', ⟨Nat.le_refl _⟩, ⟨by (with_reducible repeat (first | apply Kd.R_alloc | apply Kd.R_drewN | apply Kd.R_drew)); exact HO149.out⟩, ⟨by (with_reducible repeat (first | refine blk_drewN ?_ _ | refine blk_drew ?_ | refine blk_alloc ?_ _)); exact BK134.out⟩, ⟨by repeat (first | (with_reducible first | exact HB.out | apply below_alloc | apply pw_below_drewN | apply below_drew1 | refine below_set ?_ GE134.out) | exact HB.out)⟩⟩
      case round =>
       clear H'
       try clear c1
       try clear c2
       try clear p2
       try clear c4
       try clear c5
       try clear c5b0
       try clear c5b1
       try clear c6
       try clear p6
       try clear c8
       try clear c8b0
       try clear c8b1
       try clear p9
       try clear q9
       try clear hx9
       try clear qi9
       try clear c11
       try clear c11b0
       try clear c11b1
       try clear c12
       try clear c18
       try clear c18b0
       try clear c18b1
       try clear c19
       try clear c19b0
       try clear c19b1
       try clear c22
       try clear c22b0
       try clear c25
       try clear c25b0
       try clear c25b1
       try clear c26
       try clear c26b0
       try clear c26b1
       try clear c28
       try clear c28b0
       try clear c28b1
       try clear c29
       try clear c29b0
       try clear c29b1
       try clear hcz15_0
       try clear hcz15_1
       try clear hcz15_2
       try clear hcz15_3
       try clear hcz15_4
       try clear hcz24_0
       try clear hcz24_1
       try clear hcz24_2
       try clear hcz24_3
       try clear hcz24_4
       try clear hcz7_0
       try clear hcz7_1
       try clear hcz7_2
       try clear hcz7_3
       try clear hcz7_4
       try clear hfz15_0
       try clear hfz15_1
       try clear hfz15_2
       try clear hfz15_3
       try clear hfz15_4
       try clear hfz24_0
       try clear hfz24_1
       try clear hfz24_2
       try clear hfz24_3
       try clear hfz24_4
       try clear hfz7_0
       try clear hfz7_1
       try clear hfz7_2
       try clear hfz7_3
       try clear hfz7_4
       try clear p2
       try clear p9
       try clear q9
       obtain ⟨x50_3, x135000_3, x135001_3, x135003_3, rfl, HA, HK3, HO_8, BK134, HB⟩ := hrel
       cases gk with
       | zero => exact absurd HA.out (by simp [spec_BeginFj.l0])
       | succ k3 =>
        have H := HA.out
        clear HA
        simp only [spec_BeginFj.l0] at H
        by_cases c40 : x50_3 < (y147.length : Int)
        ·rw [if_pos c40] at H
         have c40b0 : decide (x50_3 < (y147.length : Int)) = true := decide_eq_true c40
         clear c40
         by_cases c41 : 0 ≤ x50_3
         ·rw [if_pos c41] at H
          have c41b0 : decide (0 ≤ x50_3) = true := decide_eq_true c41
          clear c41
          by_cases c42 : x50_3 < (y147.length : Int)
          ·rw [if_pos c42] at H
           have c42b0 : decide (x50_3 < (y147.length : Int)) = true := decide_eq_true c42
           clear c42
           by_cases c43 : (a0.size : Int) ≥ ((rdOf ByteArray.empty y147 x50_3).size : Int)
           ·rw [if_pos c43] at H
            have c43b0 : decide (((rdOf ByteArray.empty y147 x50_3).size : Int) ≤ (a0.size : Int)) = true := decide_eq_true c43
            have c43b1 : decide ((rdOf ByteArray.empty y147 x50_3).size ≤ a0.size) = true := decide_eq_true (Int.ofNat_le.mp c43)
            clear c43
            by_cases c44 : 0 ≤ ((rdOf ByteArray.empty y147 x50_3).size : Int)
            ·rw [if_pos c44] at H
             have c44b0 := eq_true c44
             have c44b1 : decide (0 ≤ ((rdOf ByteArray.empty y147 x50_3).size : Int)) = true := decide_eq_true c44
             clear c44
             by_cases c45 : ((rdOf ByteArray.empty y147 x50_3).size : Int) ≤ (a0.size : Int)
             ·rw [if_pos c45] at H
              have c45b0 := eq_true c45
              have c45b1 : decide (((rdOf ByteArray.empty y147 x50_3).size : Int) ≤ (a0.size : Int)) = true := decide_eq_true c45
              clear c45
              obtain ⟨js46, hjs46⟩ : ∃ z_ : ByteArray, (a0.extract 0 (((rdOf ByteArray.empty y147 x50_3).size : Int) : Int).toNat) = z_ := ⟨_, rfl⟩
              replace H : (if js46.toList = (rdOf ByteArray.empty y147 x50_3).toList then (some (x50_3, (⟨#[]⟩ : ByteArray), ([] : List ByteArray), false, ([] : List (S30)), a0.extract (((rdOf ByteArray.empty y147 x50_3).size : Int) : Int).toNat a0.size, true)) else (spec_BeginFj.l0 k3 a0 y147 (y147.length : Int) (wrap64 (x50_3 + 1)))) = some (r1, r2, r3, r4, r5, r6, r7) := by first | (rw [hjs46] at H; exact H) | (simp only [hjs46] at H ⊢; exact H)
              by_cases c47 : js46.toList = (rdOf ByteArray.empty y147 x50_3).toList
              ·rw [if_pos c47] at H
               have c47b0 : (js46.toList == (rdOf ByteArray.empty y147 x50_3).toList) = true := beq_iff_eq.mpr c47
               have c47b1 : (js46.toList != (rdOf ByteArray.empty y147 x50_3).toList) = false := bne_eq_false_iff_eq.mpr c47
               clear c47
               have c48b0 := eq_true (of_decide_eq_true (by assumption) : 0 ≤ ((rdOf ByteArray.empty y147 x50_3).size : Int))
               have c49b0 := eq_true (of_decide_eq_true (by assumption) : ((rdOf ByteArray.empty y147 x50_3).size : Int) ≤ (a0.size : Int))
               simp only [Option.some.injEq, Prod.mk.injEq] at H
               obtain ⟨rfl, rfl, rfl, rfl, rfl, rfl, rfl⟩ := H
               have p150 : 0 ≤ (x50_3 : Int) := of_decide_eq_true (by assumption)
               have q150 : x50_3 < (y147.length : Int) := of_decide_eq_true (by assumption)
               obtain ⟨ad150, e150, hx150_0⟩ := Kd.at_string (Kd.R_reads' HO_8.out).2.2 x50_3 p150 q150
               cases e150
               replace p150 := eq_true p150
               replace q150 := eq_true q150
               try have hcs50 := fun W_ : World => run_slice_string_h (P := Tryd.prog) W_ 9 a0 Tryd.underlying9 .i64 ((rdOf ByteArray.empty y147 x50_3).size : Int) (of_decide_eq_true (by assumption)) (of_decide_eq_true (by assumption))
               (try simp only [hjs46] at hcs50)
               try go_wp2
               have n0_ := Aside0.mk (Kd.R_drew HO_8.out)
               have n1_ := Aside0.mk (blk_drew BK134.out)
               have n2_ := Aside0.mk (below_drew1 HB.out)
               clear HO_8
               clear BK134
               clear HB
               have HO_8 := n0_
               have BK134 := n1_
               have HB := n2_
               clear n0_ n1_ n2_
               refine start_ (n := 9) (S := fun w' => True) (ds := []) #[false, false, false, false, false, false, false, false, false] (by kernel_rfl) rfl rfl trivial (fun hHeld => ?_); refine with_tabW spec_BeginFj.tab18 spec_BeginFj.bits18 (fun HT_ HW_ => ?_)
               generalize wr.drew = w51 at HO_8 BK134 HB hHeld ⊢
               refine pure_ (i := 0) (N := some 70) (v := ?_) (a' := ?_) #[true, false, false, false, false, false, false, false, false] rfl rfl (any_of HT_.out (by kernel_rfl)) (fun _ _ _ h => h) (Or.inl ⟨by rfl, ?_⟩) ?_ ?_
               rotate_left
               ·intro w'
                go_simp
                with_reducible rfl
               rotate_left
               ·simp only [Act.put, List.setIfInBounds_toArray, List.set_cons_zero, List.set_cons_succ, i64_w, i32_w]
                rfl
               refine pure_ (i := 1) (N := some 71) (v := ?_) (a' := ?_) #[true, true, false, false, false, false, false, false, false] rfl rfl (any_of HT_.out (by kernel_rfl)) (fun _ _ _ h => h) (Or.inl ⟨by rfl, ?_⟩) ?_ ?_
               rotate_left
               ·intro w'
                go_simp
                with_reducible rfl
               rotate_left
               ·simp only [Act.put, List.setIfInBounds_toArray, List.set_cons_zero, List.set_cons_succ, i64_w, i32_w]
                rfl
               refine pure_ (i := 2) (N := some 72) (v := ?_) (a' := ?_) #[true, true, true, false, false, false, false, false, false] rfl rfl (any_of HT_.out (by kernel_rfl)) (fun _ _ _ h => h) (Or.inl ⟨by rfl, ?_⟩) ?_ ?_
               rotate_left
               ·intro w'
                go_simp
                with_reducible rfl
               rotate_left
               ·simp only [Act.put, List.setIfInBounds_toArray, List.set_cons_zero, List.set_cons_succ, i64_w, i32_w]
                rfl
               refine pure_ (i := 3) (N := some 73) (v := ?_) (a' := ?_) #[true, true, true, true, false, false, false, false, false] rfl rfl (any_of HT_.out (by kernel_rfl)) (fun _ _ _ h => h) (Or.inl ⟨by rfl, ?_⟩) ?_ ?_
               rotate_left
               ·intro w'
                go_simp
                with_reducible rfl
               rotate_left
               ·simp only [Act.put, List.setIfInBounds_toArray, List.set_cons_zero, List.set_cons_succ, i64_w, i32_w]
                rfl
               refine pure_ (i := 4) (N := some 74) (v := ?_) (a' := ?_) #[true, true, true, true, true, false, false, false, false] rfl rfl (any_of HT_.out (by kernel_rfl)) (fun _ _ _ h => h) (Or.inl ⟨by rfl, ?_⟩) ?_ ?_
               rotate_left
               ·intro w'
                go_simp
                with_reducible rfl
               rotate_left
               ·simp only [Act.put, List.setIfInBounds_toArray, List.set_cons_zero, List.set_cons_succ, i64_w, i32_w]
                rfl
               refine pure_ (i := 5) (N := some 75) (v := ?_) (a' := ?_) #[true, true, true, true, true, true, false, false, false] rfl rfl (any_of HT_.out (by kernel_rfl)) (fun _ _ _ h => h) (Or.inl ⟨by rfl, ?_⟩) ?_ ?_
               rotate_left
               ·intro w'
                go_simp
                with_reducible rfl
               rotate_left
               ·simp only [Act.put, List.setIfInBounds_toArray, List.set_cons_zero, List.set_cons_succ, i64_w, i32_w]
                rfl
               refine one_ (i := 6) (N := none) #[true, true, true, true, true, true, true, false, false] rfl rfl (one_of HT_.out (by kernel_rfl)) (by decide) (fun K hK => ?_)
               have hs52 : w51.cell? ⟨gb134, 0, none⟩ = some (.int .i64 x135000_3) := (blk_cell BK134.out 0).trans rfl
               have hfs52 := blk_frozen BK134.out 0
               have hs53 : w51.cell? ⟨gb134, 1, none⟩ = some (.string x135001_3) := (blk_cell BK134.out 1).trans rfl
               have hfs53 := blk_frozen BK134.out 1
               have hs54 : w51.cell? ⟨gb134, 2, none⟩ = some (.slice none 0 0) := (blk_cell BK134.out 2).trans rfl
               have hfs54 := blk_frozen BK134.out 2
               have hs55 : w51.cell? ⟨gb134, 3, none⟩ = some (.bool x135003_3) := (blk_cell BK134.out 3).trans rfl
               have hfs55 := blk_frozen BK134.out 3
               have hs56 : w51.cell? ⟨gb134, 4, none⟩ = some (.slice none 0 0) := (blk_cell BK134.out 4).trans rfl
               have hfs56 := blk_frozen BK134.out 4
               refine skip_ (w1 := ?_) (by rfl) rfl ?_ ?_
               rotate_left
               ·go_simp
                rfl
               refine hK.out _ _ trivial (fun hHeld => ?_)
               clear hK K
               refine pure_ (i := 7) (N := some 5) (v := ?_) (a' := ?_) #[true, true, true, true, true, true, true, true, false] rfl rfl (any_of HT_.out (by kernel_rfl)) (fun _ _ _ h => h) (Or.inl ⟨by rfl, ?_⟩) ?_ ?_
               rotate_left
               ·intro w'
                go_simp
                with_reducible rfl
               rotate_left
               ·simp only [Act.put, List.setIfInBounds_toArray, List.set_cons_zero, List.set_cons_succ, i64_w, i32_w]
                rfl
               refine pure_ (i := 8) (N := some 6) (v := ?_) (a' := ?_) #[true, true, true, true, true, true, true, true, true] rfl rfl (any_of HT_.out (by kernel_rfl)) (fun _ _ _ h => h) (Or.inl ⟨by rfl, ?_⟩) ?_ ?_
               rotate_left
               ·intro w'
                go_simp
                with_reducible rfl
               rotate_left
               ·simp only [Act.put, List.setIfInBounds_toArray, List.set_cons_zero, List.set_cons_succ, i64_w, i32_w]
                rfl
               refine done_ (done_of HT_.out (by kernel_rfl)) ?_
               try go_wp2
               refine bodyPost_ret (results_ctt rfl _ _ gb134 30 #[.int .i64 x50_3, .string (⟨#[]⟩ : ByteArray), .slice none 0 0, .bool false, .slice none 0 0] (0, 0) _ rfl (by (with_reducible repeat (first | refine blk_drewN ?_ _ | refine blk_drew ?_ | refine blk_alloc ?_ _)); refine blk_put (cs := #[.int .i64 x50_3, .string (⟨#[]⟩ : ByteArray), .slice none 0 0, .bool false, .slice none 0 0]) ?_ 4 _ rfl; (with_reducible repeat (first | refine blk_drewN ?_ _ | refine blk_drew ?_ | refine blk_alloc ?_ _)); refine blk_put (cs := #[.int .i64 x50_3, .string (⟨#[]⟩ : ByteArray), .slice none 0 0, .bool x135003_3, .slice none 0 0]) ?_ 3 _ rfl; (with_reducible repeat (first | refine blk_drewN ?_ _ | refine blk_drew ?_ | refine blk_alloc ?_ _)); refine blk_put (cs := #[.int .i64 x50_3, .string (⟨#[]⟩ : ByteArray), .slice none 0 0, .bool x135003_3, .slice none 0 0]) ?_ 2 _ rfl; (with_reducible repeat (first | refine blk_drewN ?_ _ | refine blk_drew ?_ | refine blk_alloc ?_ _)); refine blk_put (cs := #[.int .i64 x50_3, .string x135001_3, .slice none 0 0, .bool x135003_3, .slice none 0 0]) ?_ 1 _ rfl; (with_reducible repeat (first | refine blk_drewN ?_ _ | refine blk_drew ?_ | refine blk_alloc ?_ _)); refine blk_put (cs := #[.int .i64 x135000_3, .string x135001_3, .slice none 0 0, .bool x135003_3, .slice none 0 0]) ?_ 0 _ rfl; (with_reducible repeat (first | refine blk_drewN ?_ _ | refine blk_drew ?_ | refine blk_alloc ?_ _)); exact BK134.out) Tryd.underlying30 rfl (by kernel_rfl)) rfl ?_
               exact ⟨_, _, by first | rfl | (simp [errW_none, errW_some] <;> rfl) | (simp [*, errW_none, errW_some] <;> rfl) | (simp [errW_none, errW_some] <;> exact ⟨rfl, rfl⟩) | (simp [*, errW_none, errW_some] <;> exact ⟨rfl, rfl⟩), by first | exact Kd.R_nil _ _ _ _ _ | exact Kd.N_nil _ _ _ _ _ | exact Kd.V_nil _ _ _ _ _ | exact Kd.Q_nil _ _ _ _ _ | exact Kd.S_nil _ _ _ _ _, by first | exact Kd.R_nil _ _ _ _ _ | exact Kd.N_nil _ _ _ _ _ | exact Kd.V_nil _ _ _ _ _ | exact Kd.Q_nil _ _ _ _ _ | exact Kd.S_nil _ _ _ _ _, by repeat (first | (with_reducible first | exact HB.out | apply below_alloc | apply pw_below_drewN | apply below_drew1 | refine below_set ?_ GE134.out) | exact HB.out)⟩
              rw [if_neg c47] at H
              have c47b0 : (js46.toList == (rdOf ByteArray.empty y147 x50_3).toList) = false := beq_eq_false_iff_ne.mpr c47
              have c47b1 : (js46.toList != (rdOf ByteArray.empty y147 x50_3).toList) = true := bne_iff_ne.mpr c47
              have H' := Aside0.mk H
              clear H
              have p150 : 0 ≤ (x50_3 : Int) := of_decide_eq_true (by assumption)
              have q150 : x50_3 < (y147.length : Int) := of_decide_eq_true (by assumption)
              obtain ⟨ad150, e150, hx150_0⟩ := Kd.at_string (Kd.R_reads' HO_8.out).2.2 x50_3 p150 q150
              cases e150
              replace p150 := eq_true p150
              replace q150 := eq_true q150
              try have hcs57 := fun W_ : World => run_slice_string_h (P := Tryd.prog) W_ 9 a0 Tryd.underlying9 .i64 ((rdOf ByteArray.empty y147 x50_3).size : Int) (of_decide_eq_true (by assumption)) (of_decide_eq_true (by assumption))
              (try simp only [hjs46] at hcs57)
              go_wp2
              go_roundg k3
              case measure => have := HJ2.out; have := HJ9.out; have := HK3.out; omega
              case rel => exact ⟨(wrap64 (x50_3 + 1)), (x135000_3), (x135001_3), (x135003_3), (by first | rfl | (simp; done) | (simp [*]; done)), H', ⟨by have := HJ2.out; have := HJ9.out; have := HK3.out; omega⟩, ⟨by (with_reducible repeat (first | apply Kd.R_alloc | apply Kd.R_drewN | apply Kd.R_drew)); exact HO_8.out⟩, ⟨by (with_reducible repeat (first | refine blk_drewN ?_ _ | refine blk_drew ?_ | refine blk_alloc ?_ _)); exact BK134.out⟩, ⟨by repeat (first | (with_reducible first | exact HB.out | apply below_alloc | apply pw_below_drewN | apply below_drew1 | refine below_set ?_ GE134.out) | exact HB.out)⟩⟩
             rw [if_neg c45] at H
             exact absurd H (by simp)
            rw [if_neg c44] at H
            exact absurd H (by simp)
           rw [if_neg c43] at H
           have c43b0 : decide (((rdOf ByteArray.empty y147 x50_3).size : Int) ≤ (a0.size : Int)) = false := decide_eq_false c43
           have c43b1 : decide ((rdOf ByteArray.empty y147 x50_3).size ≤ a0.size) = false := decide_eq_false (fun h => c43 (Int.ofNat_le.mpr h))
           clear c43
           have H' := Aside0.mk H
           clear H
           have p150 : 0 ≤ (x50_3 : Int) := of_decide_eq_true (by assumption)
           have q150 : x50_3 < (y147.length : Int) := of_decide_eq_true (by assumption)
           obtain ⟨ad150, e150, hx150_0⟩ := Kd.at_string (Kd.R_reads' HO_8.out).2.2 x50_3 p150 q150
           cases e150
           replace p150 := eq_true p150
           replace q150 := eq_true q150
           go_wp2
           go_roundg k3
           case measure => have := HJ2.out; have := HJ9.out; have := HK3.out; omega
           case rel => exact ⟨(wrap64 (x50_3 + 1)), (x135000_3), (x135001_3), (x135003_3), (by first | rfl | (simp; done) | (simp [*]; done)), H', ⟨by have := HJ2.out; have := HJ9.out; have := HK3.out; omega⟩, ⟨by (with_reducible repeat (first | apply Kd.R_alloc | apply Kd.R_drewN | apply Kd.R_drew)); exact HO_8.out⟩, ⟨by (with_reducible repeat (first | refine blk_drewN ?_ _ | refine blk_drew ?_ | refine blk_alloc ?_ _)); exact BK134.out⟩, ⟨by repeat (first | (with_reducible first | exact HB.out | apply below_alloc | apply pw_below_drewN | apply below_drew1 | refine below_set ?_ GE134.out) | exact HB.out)⟩⟩
          rw [if_neg c42] at H
          exact absurd H (by simp)
         rw [if_neg c41] at H
         exact absurd H (by simp)
        rw [if_neg c40] at H
        have c40b0 : decide (x50_3 < (y147.length : Int)) = false := decide_eq_false c40
        clear c40
        replace H := Option.bind_eq_some_iff.mp H
        obtain ⟨t151, A580, H⟩ := H
        replace H : (if 0 ≤ t151 then (if t151 ≤ (a0.size : Int) then (some (3, a0.extract 0 (t151 : Int).toNat, ([] : List ByteArray), false, ([] : List (S30)), a0.extract (t151 : Int).toNat a0.size, decide (t151 > 0))) else (none)) else (none)) = some (r1, r2, r3, r4, r5, r6, r7) := H
        have A58 := Aside0.mk A580
        clear A580
        by_cases c59 : 0 ≤ t151
        ·rw [if_pos c59] at H
         have c59b0 := eq_true c59
         have c59b1 : decide (0 ≤ t151) = true := decide_eq_true c59
         clear c59
         by_cases c60 : t151 ≤ (a0.size : Int)
         ·rw [if_pos c60] at H
          have c60b0 := eq_true c60
          have c60b1 : decide (t151 ≤ (a0.size : Int)) = true := decide_eq_true c60
          clear c60
          have c61b0 := eq_true (of_decide_eq_true (by assumption) : 0 ≤ t151)
          have c62b0 := eq_true (of_decide_eq_true (by assumption) : t151 ≤ (a0.size : Int))
          simp only [Option.some.injEq, Prod.mk.injEq] at H
          obtain ⟨rfl, rfl, rfl, rfl, rfl, rfl, rfl⟩ := H
          try go_wp2_with (first | ((with_reducible refine gate_callee (f := 45) rfl ?_); refine goesL_ (some 78) rfl rfl Tryd.func45 (by kernel_rfl) rfl #[.string a0] rfl (by (try simp only [List.map_toArray, List.map_cons, List.map_nil]); first | done | rfl | (simp only [List.length_drop, List.length_take]; rfl)) ?_; (with_reducible refine (spec_fjNumber.calls k3 a0 t151 _ A58.out).mono ?_); rintro e w' ⟨rfl, ⟨nd, rfl⟩⟩; refine ⟨_, rfl, ?_⟩; (try (rw [drewN_self wr]; generalize hq_ : World.drewN wr _ = wr; have n0_ : Aside0 (Kd.R Kd.string 9 wr w.heap.size (fun _ => True) (.slice Ao39 y147.length co39) y147) := ⟨by rw [← hq_]; exact (by (with_reducible repeat (first | apply Kd.R_alloc | apply Kd.R_drewN | apply Kd.R_drew)); exact HO_8.out)⟩; have n1_ : Aside0 (wr.heap[gb134]? = some (.cells #[.int .i64 x135000_3, .string x135001_3, .slice none 0 0, .bool x135003_3, .slice none 0 0] 30 (0, 0))) := ⟨by rw [← hq_]; exact (by (with_reducible repeat (first | refine blk_drewN ?_ _ | refine blk_drew ?_ | refine blk_alloc ?_ _)); exact BK134.out)⟩; have n2_ : Aside0 (Below w.heap.size w wr) := ⟨by rw [← hq_]; exact (by repeat (first | (with_reducible first | exact HB.out | apply below_alloc | apply pw_below_drewN | apply below_drew1 | refine below_set ?_ GE134.out) | exact HB.out))⟩; clear HO_8 BK134 HB hq_; have HO_8 := n0_; have BK134 := n1_; have HB := n2_; clear n0_ n1_ n2_))))
          have n0_ := Aside0.mk (Kd.R_drew HO_8.out)
          have n1_ := Aside0.mk (blk_drew BK134.out)
          have n2_ := Aside0.mk (below_drew1 HB.out)
          clear HO_8
          clear BK134
          clear HB
          have HO_8 := n0_
          have BK134 := n1_
          have HB := n2_
          clear n0_ n1_ n2_
          refine start_ (n := 12) (S := fun w' => True) (ds := []) #[false, false, false, false, false, false, false, false, false, false, false, false] (by kernel_rfl) rfl rfl trivial (fun hHeld => ?_); refine with_tabW spec_BeginFj.tab21 spec_BeginFj.bits21 (fun HT_ HW_ => ?_)
          generalize wr.drew = w63 at HO_8 BK134 HB hHeld ⊢
          refine pure_ (i := 0) (N := some 79) (v := ?_) (a' := ?_) #[true, false, false, false, false, false, false, false, false, false, false, false] rfl rfl (any_of HT_.out (by kernel_rfl)) (fun _ _ _ h => h) (Or.inl ⟨by rfl, ?_⟩) ?_ ?_
          rotate_left
          ·intro w'
           go_simp
           with_reducible rfl
          rotate_left
          ·simp only [Act.put, List.setIfInBounds_toArray, List.set_cons_zero, List.set_cons_succ, i64_w, i32_w]
           rfl
          refine pure_ (i := 1) (N := some 80) (v := ?_) (a' := ?_) #[true, true, false, false, false, false, false, false, false, false, false, false] rfl rfl (any_of HT_.out (by kernel_rfl)) (fun _ _ _ h => h) (Or.inl ⟨by rfl, ?_⟩) ?_ ?_
          rotate_left
          ·intro w'
           go_simp
           with_reducible rfl
          rotate_left
          ·simp only [Act.put, List.setIfInBounds_toArray, List.set_cons_zero, List.set_cons_succ, i64_w, i32_w]
           rfl
          refine pure_ (i := 2) (N := some 81) (v := ?_) (a' := ?_) #[true, true, true, false, false, false, false, false, false, false, false, false] rfl rfl (any_of HT_.out (by kernel_rfl)) (fun _ _ _ h => h) (Or.inl ⟨by rfl, ?_⟩) ?_ ?_
          rotate_left
          ·intro w'
           go_simp
           with_reducible rfl
          rotate_left
          ·simp only [Act.put, List.setIfInBounds_toArray, List.set_cons_zero, List.set_cons_succ, i64_w, i32_w]
           rfl
          refine pure_ (i := 3) (N := some 82) (v := ?_) (a' := ?_) #[true, true, true, true, false, false, false, false, false, false, false, false] rfl rfl (any_of HT_.out (by kernel_rfl)) (fun _ _ _ h => h) (Or.inl ⟨by rfl, ?_⟩) ?_ ?_
          rotate_left
          ·intro w'
           go_simp
           with_reducible rfl
          rotate_left
          ·simp only [Act.put, List.setIfInBounds_toArray, List.set_cons_zero, List.set_cons_succ, i64_w, i32_w]
           rfl
          refine pure_ (i := 4) (N := some 83) (v := ?_) (a' := ?_) #[true, true, true, true, true, false, false, false, false, false, false, false] rfl rfl (any_of HT_.out (by kernel_rfl)) (fun _ _ _ h => h) (Or.inl ⟨by rfl, ?_⟩) ?_ ?_
          rotate_left
          ·intro w'
           go_simp
           with_reducible rfl
          rotate_left
          ·simp only [Act.put, List.setIfInBounds_toArray, List.set_cons_zero, List.set_cons_succ, i64_w, i32_w]
           rfl
          refine pure_ (i := 5) (N := some 84) (v := ?_) (a' := ?_) #[true, true, true, true, true, true, false, false, false, false, false, false] rfl rfl (any_of HT_.out (by kernel_rfl)) (fun _ _ _ h => h) (Or.inl ⟨by rfl, ?_⟩) ?_ ?_
          rotate_left
          ·intro w'
           go_simp
           with_reducible rfl
          rotate_left
          ·simp only [Act.put, List.setIfInBounds_toArray, List.set_cons_zero, List.set_cons_succ, i64_w, i32_w]
           rfl
          refine pure_ (i := 6) (N := some 85) (v := ?_) (a' := ?_) #[true, true, true, true, true, true, true, false, false, false, false, false] rfl rfl (any_of HT_.out (by kernel_rfl)) (fun _ _ _ h => h) (Or.inl ⟨by rfl, ?_⟩) ?_ ?_
          rotate_left
          ·intro w'
           go_simp
           with_reducible rfl
          rotate_left
          ·simp only [Act.put, List.setIfInBounds_toArray, List.set_cons_zero, List.set_cons_succ, i64_w, i32_w]
           rfl
          refine pure_ (i := 7) (N := some 86) (v := ?_) (a' := ?_) #[true, true, true, true, true, true, true, true, false, false, false, false] rfl rfl (any_of HT_.out (by kernel_rfl)) (fun _ _ _ h => h) (Or.inl ⟨by rfl, ?_⟩) ?_ ?_
          rotate_left
          ·intro w'
           go_simp
           with_reducible rfl
          rotate_left
          ·simp only [Act.put, List.setIfInBounds_toArray, List.set_cons_zero, List.set_cons_succ, i64_w, i32_w]
           rfl
          refine pure_ (i := 8) (N := some 87) (v := ?_) (a' := ?_) #[true, true, true, true, true, true, true, true, true, false, false, false] rfl rfl (any_of HT_.out (by kernel_rfl)) (fun _ _ _ h => h) (Or.inl ⟨by rfl, ?_⟩) ?_ ?_
          rotate_left
          ·intro w'
           go_simp
           with_reducible rfl
          rotate_left
          ·simp only [Act.put, List.setIfInBounds_toArray, List.set_cons_zero, List.set_cons_succ, i64_w, i32_w]
           rfl
          refine one_ (i := 9) (N := none) #[true, true, true, true, true, true, true, true, true, true, false, false] rfl rfl (one_of HT_.out (by kernel_rfl)) (by decide) (fun K hK => ?_)
          have hs64 : w63.cell? ⟨gb134, 0, none⟩ = some (.int .i64 x135000_3) := (blk_cell BK134.out 0).trans rfl
          have hfs64 := blk_frozen BK134.out 0
          have hs65 : w63.cell? ⟨gb134, 1, none⟩ = some (.string x135001_3) := (blk_cell BK134.out 1).trans rfl
          have hfs65 := blk_frozen BK134.out 1
          have hs66 : w63.cell? ⟨gb134, 2, none⟩ = some (.slice none 0 0) := (blk_cell BK134.out 2).trans rfl
          have hfs66 := blk_frozen BK134.out 2
          have hs67 : w63.cell? ⟨gb134, 3, none⟩ = some (.bool x135003_3) := (blk_cell BK134.out 3).trans rfl
          have hfs67 := blk_frozen BK134.out 3
          have hs68 : w63.cell? ⟨gb134, 4, none⟩ = some (.slice none 0 0) := (blk_cell BK134.out 4).trans rfl
          have hfs68 := blk_frozen BK134.out 4
          refine skip_ (w1 := ?_) (by rfl) rfl ?_ ?_
          rotate_left
          ·go_simp
           rfl
          refine hK.out _ _ trivial (fun hHeld => ?_)
          clear hK K
          refine pure_ (i := 10) (N := some 5) (v := ?_) (a' := ?_) #[true, true, true, true, true, true, true, true, true, true, true, false] rfl rfl (any_of HT_.out (by kernel_rfl)) (fun _ _ _ h => h) (Or.inl ⟨by rfl, ?_⟩) ?_ ?_
          rotate_left
          ·intro w'
           go_simp
           with_reducible rfl
          rotate_left
          ·simp only [Act.put, List.setIfInBounds_toArray, List.set_cons_zero, List.set_cons_succ, i64_w, i32_w]
           rfl
          refine pure_ (i := 11) (N := some 6) (v := ?_) (a' := ?_) #[true, true, true, true, true, true, true, true, true, true, true, true] rfl rfl (any_of HT_.out (by kernel_rfl)) (fun _ _ _ h => h) (Or.inl ⟨by rfl, ?_⟩) ?_ ?_
          rotate_left
          ·intro w'
           go_simp
           with_reducible rfl
          rotate_left
          ·simp only [Act.put, List.setIfInBounds_toArray, List.set_cons_zero, List.set_cons_succ, i64_w, i32_w]
           rfl
          refine done_ (done_of HT_.out (by kernel_rfl)) ?_
          try go_wp2
          refine bodyPost_ret (results_ctt rfl _ _ gb134 30 #[.int .i64 3, .string (a0.extract 0 (t151 : Int).toNat), .slice none 0 0, .bool false, .slice none 0 0] (0, 0) _ rfl (by (with_reducible repeat (first | refine blk_drewN ?_ _ | refine blk_drew ?_ | refine blk_alloc ?_ _)); refine blk_put (cs := #[.int .i64 3, .string (a0.extract 0 (t151 : Int).toNat), .slice none 0 0, .bool false, .slice none 0 0]) ?_ 4 _ rfl; (with_reducible repeat (first | refine blk_drewN ?_ _ | refine blk_drew ?_ | refine blk_alloc ?_ _)); refine blk_put (cs := #[.int .i64 3, .string (a0.extract 0 (t151 : Int).toNat), .slice none 0 0, .bool x135003_3, .slice none 0 0]) ?_ 3 _ rfl; (with_reducible repeat (first | refine blk_drewN ?_ _ | refine blk_drew ?_ | refine blk_alloc ?_ _)); refine blk_put (cs := #[.int .i64 3, .string (a0.extract 0 (t151 : Int).toNat), .slice none 0 0, .bool x135003_3, .slice none 0 0]) ?_ 2 _ rfl; (with_reducible repeat (first | refine blk_drewN ?_ _ | refine blk_drew ?_ | refine blk_alloc ?_ _)); refine blk_put (cs := #[.int .i64 3, .string x135001_3, .slice none 0 0, .bool x135003_3, .slice none 0 0]) ?_ 1 _ rfl; (with_reducible repeat (first | refine blk_drewN ?_ _ | refine blk_drew ?_ | refine blk_alloc ?_ _)); refine blk_put (cs := #[.int .i64 x135000_3, .string x135001_3, .slice none 0 0, .bool x135003_3, .slice none 0 0]) ?_ 0 _ rfl; (with_reducible repeat (first | refine blk_drewN ?_ _ | refine blk_drew ?_ | refine blk_alloc ?_ _)); exact BK134.out) Tryd.underlying30 rfl (by kernel_rfl)) rfl ?_
          exact ⟨_, _, by first | rfl | (simp [errW_none, errW_some] <;> rfl) | (simp [*, errW_none, errW_some] <;> rfl) | (simp [errW_none, errW_some] <;> exact ⟨rfl, rfl⟩) | (simp [*, errW_none, errW_some] <;> exact ⟨rfl, rfl⟩), by first | exact Kd.R_nil _ _ _ _ _ | exact Kd.N_nil _ _ _ _ _ | exact Kd.V_nil _ _ _ _ _ | exact Kd.Q_nil _ _ _ _ _ | exact Kd.S_nil _ _ _ _ _, by first | exact Kd.R_nil _ _ _ _ _ | exact Kd.N_nil _ _ _ _ _ | exact Kd.V_nil _ _ _ _ _ | exact Kd.Q_nil _ _ _ _ _ | exact Kd.S_nil _ _ _ _ _, by repeat (first | (with_reducible first | exact HB.out | apply below_alloc | apply pw_below_drewN | apply below_drew1 | refine below_set ?_ GE134.out) | exact HB.out)⟩
         rw [if_neg c60] at H
         exact absurd H (by simp)
        rw [if_neg c59] at H
        exact absurd H (by simp)
   rw [if_neg c8] at H
   exact absurd H (by simp)
end Go.Proofs.YtnajijaachgipaaDoor.PR
end
