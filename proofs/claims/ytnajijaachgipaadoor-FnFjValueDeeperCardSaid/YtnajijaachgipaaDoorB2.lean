/- Texts of this claim put together: PTx21, PTx22, HFjA, HFjB, HFjC, HFjP, HFjQ, HFjR, HFjS, HFjM, HFjN, HFjO, HFjX, HFjY, HFjZ. -/
import Derived.Test.YtnajijaachgipaaDoorB0
import Derived.Test.YtnajijaachgipaaDoorB1
import Derived.Test.YtnajijaachgipaaDoorChecked
import Derived.WalkLawsBesides
import Derived.RegionTactic
import Derived.BigQuiet
import Derived.Deep.QuietTactic
import Derived.OwnWalk
import Derived.Lib.AtoiErrMem
import Derived.Lib.AppendZeros
import Derived.Lib.AppendStr
import Derived.Deep.RegionWith
import Derived.Deep.RegionLaw
import Derived.Deep.AppendLies
section
namespace Go.Proofs.YtnajijaachgipaaDoor.PT
open Go.RowKit Go.Proofs.YtnajijaachgipaaDoorW.PrintWords Go.Proofs.YtnajijaachgipaaDoorW.PrintLast Go.Proofs.YtnajijaachgipaaDoorW.PrintMore
attribute [local go_sem] max2_int min2_int max_two min_two max_three min_three max_four min_four   -- for this text's walks alone
set_option linter.unusedVariables false
set_option linter.unusedSimpArgs false
/-! ### fastjson_parseRawNumber: function 75 -/
mutual
def fastjson_parseRawNumber.l0 : Nat → ByteArray → Int → Int → Option (ByteArray × ByteArray × Option Int)
 | 0, _, _, _ => none
 | k + 1, x0, x10, x11 => if x11 < x10 then (if 0 ≤ x11 then (if x11 < (x0.size : Int) then (if (bt x0 x11) ≥ 48 then (if (bt x0 x11) ≤ 57 then (fastjson_parseRawNumber.j1 k x0 x11 x10 x11 true) else (if (bt x0 x11) = 46 then (fastjson_parseRawNumber.j1 k x0 x11 x10 x11 true) else (if (bt x0 x11) = 45 then (fastjson_parseRawNumber.j1 k x0 x11 x10 x11 true) else (if (bt x0 x11) = 101 then (fastjson_parseRawNumber.j1 k x0 x11 x10 x11 true) else (if (bt x0 x11) = 69 then (fastjson_parseRawNumber.j1 k x0 x11 x10 x11 true) else (fastjson_parseRawNumber.j1 k x0 x11 x10 x11 ((bt x0 x11) == 43))))))) else (if (bt x0 x11) = 46 then (fastjson_parseRawNumber.j1 k x0 x11 x10 x11 true) else (if (bt x0 x11) = 45 then (fastjson_parseRawNumber.j1 k x0 x11 x10 x11 true) else (if (bt x0 x11) = 101 then (fastjson_parseRawNumber.j1 k x0 x11 x10 x11 true) else (if (bt x0 x11) = 69 then (fastjson_parseRawNumber.j1 k x0 x11 x10 x11 true) else (fastjson_parseRawNumber.j1 k x0 x11 x10 x11 ((bt x0 x11) == 43))))))) else (none)) else (none)) else (some (x0, (⟨#[]⟩ : ByteArray), none))
def fastjson_parseRawNumber.j1 : Nat → ByteArray → Int → Int → Int → Bool → Option (ByteArray × ByteArray × Option Int)
 | 0, _, _, _, _, _ => none
 | k + 1, x0, x5, x10, x11, x42 => if x42 = true then (fastjson_parseRawNumber.l0 k x0 x10 (wrap64 (x11 + 1))) else (if x5 = 0 then (fastjson_parseRawNumber.j2 k x0 x5 true) else (if x5 = 1 then (if 0 < (x0.size : Int) then (if (bt x0 0) = 45 then (fastjson_parseRawNumber.j2 k x0 x5 true) else (fastjson_parseRawNumber.j2 k x0 x5 ((bt x0 0) == 43))) else (none)) else (fastjson_parseRawNumber.j2 k x0 x5 false)))
def fastjson_parseRawNumber.j2 : Nat → ByteArray → Int → Bool → Option (ByteArray × ByteArray × Option Int)
 | 0, _, _, _ => none
 | k + 1, x0, x5, x58 => if x58 = true then (if 0 ≤ x5 then (if x5 ≤ (x0.size : Int) then (if ((x0.extract (x5 : Int).toNat x0.size).size : Int) ≥ 3 then (if x5 ≤ (wrap64 (x5 + 3)) then (if (wrap64 (x5 + 3)) ≤ (x0.size : Int) then ((fastjson_zzFold.f k (x0.extract (x5 : Int).toNat ((wrap64 (x5 + 3)) : Int).toNat) (⟨#[105, 110, 102]⟩ : ByteArray)).bind fun t172 => (if t172 = true then (if 0 ≤ (wrap64 (x5 + 3)) then (some (x0.extract 0 ((wrap64 (x5 + 3)) : Int).toNat, x0.extract ((wrap64 (x5 + 3)) : Int).toNat x0.size, none)) else (none)) else ((fastjson_zzFold.f k (x0.extract (x5 : Int).toNat ((wrap64 (x5 + 3)) : Int).toNat) (⟨#[110, 97, 110]⟩ : ByteArray)).bind fun t173 => (if t173 = true then (if 0 ≤ (wrap64 (x5 + 3)) then (some (x0.extract 0 ((wrap64 (x5 + 3)) : Int).toNat, x0.extract ((wrap64 (x5 + 3)) : Int).toNat x0.size, none)) else (none)) else ((errors_New.f (⟨#[117, 110, 101, 120, 112, 101, 99, 116, 101, 100, 32, 99, 104, 97, 114]⟩ : ByteArray)).bind fun t174 => (some ((⟨#[]⟩ : ByteArray), x0, t174))))))) else (none)) else (none)) else ((errors_New.f (⟨#[117, 110, 101, 120, 112, 101, 99, 116, 101, 100, 32, 99, 104, 97, 114]⟩ : ByteArray)).bind fun t175 => (some ((⟨#[]⟩ : ByteArray), x0, t175)))) else (none)) else (none)) else (if 0 ≤ x5 then (if x5 ≤ (x0.size : Int) then (some (x0.extract 0 (x5 : Int).toNat, x0.extract (x5 : Int).toNat x0.size, none)) else (none)) else (none))
end
def fastjson_parseRawNumber.f (k : Nat) (a0 : ByteArray) : Option (ByteArray × ByteArray × Option Int) := fastjson_parseRawNumber.l0 k a0 (a0.size : Int) 0
theorem fastjson_parseRawNumber.mono_l : ∀ k, (∀ y0 y1 y2, LeO (fastjson_parseRawNumber.l0 k y0 y1 y2) (fastjson_parseRawNumber.l0 (k + 1) y0 y1 y2)) ∧ (∀ y0 y1 y2 y3 y4, LeO (fastjson_parseRawNumber.j1 k y0 y1 y2 y3 y4) (fastjson_parseRawNumber.j1 (k + 1) y0 y1 y2 y3 y4)) ∧ (∀ y0 y1 y2, LeO (fastjson_parseRawNumber.j2 k y0 y1 y2) (fastjson_parseRawNumber.j2 (k + 1) y0 y1 y2))
 | 0 => ⟨fun _ _ _ r h => by simp [fastjson_parseRawNumber.l0] at h, fun _ _ _ _ _ r h => by simp [fastjson_parseRawNumber.j1] at h, fun _ _ _ r h => by simp [fastjson_parseRawNumber.j2] at h⟩
 | k + 1 => by
  obtain ⟨ih0, ih1, ih2⟩ := fastjson_parseRawNumber.mono_l k
  refine ⟨?_, ?_, ?_⟩
  ·intro y0 y1 y2
   unfold fastjson_parseRawNumber.l0
   repeat' first
   | (with_reducible exact ih0 _ _ _)
   | (with_reducible exact ih1 _ _ _ _ _)
   | (with_reducible exact ih2 _ _ _)
   | (with_reducible exact fastjson_zzFold.mono _ _ _)
   | (with_reducible exact LeO.refl _)
   | (with_reducible exact LeO.none _)
   | (with_reducible refine LeO.ite ?_ ?_)
   | (with_reducible refine LeO.bind ?_ (fun _ => ?_))
   | exact ih0 _ _ _
   | exact ih1 _ _ _ _ _
   | exact ih2 _ _ _
   | exact fastjson_zzFold.mono _ _ _
   | exact LeO.none _
   | refine LeO.ite ?_ ?_
   | refine LeO.bind ?_ (fun _ => ?_)
  ·intro y0 y1 y2 y3 y4
   unfold fastjson_parseRawNumber.j1
   repeat' first
   | (with_reducible exact ih0 _ _ _)
   | (with_reducible exact ih1 _ _ _ _ _)
   | (with_reducible exact ih2 _ _ _)
   | (with_reducible exact fastjson_zzFold.mono _ _ _)
   | (with_reducible exact LeO.refl _)
   | (with_reducible exact LeO.none _)
   | (with_reducible refine LeO.ite ?_ ?_)
   | (with_reducible refine LeO.bind ?_ (fun _ => ?_))
   | exact ih0 _ _ _
   | exact ih1 _ _ _ _ _
   | exact ih2 _ _ _
   | exact fastjson_zzFold.mono _ _ _
   | exact LeO.none _
   | refine LeO.ite ?_ ?_
   | refine LeO.bind ?_ (fun _ => ?_)
  intro y0 y1 y2
  unfold fastjson_parseRawNumber.j2
  repeat' first
  | (with_reducible exact ih0 _ _ _)
  | (with_reducible exact ih1 _ _ _ _ _)
  | (with_reducible exact ih2 _ _ _)
  | (with_reducible exact fastjson_zzFold.mono _ _ _)
  | (with_reducible exact LeO.refl _)
  | (with_reducible exact LeO.none _)
  | (with_reducible refine LeO.ite ?_ ?_)
  | (with_reducible refine LeO.bind ?_ (fun _ => ?_))
  | exact ih0 _ _ _
  | exact ih1 _ _ _ _ _
  | exact ih2 _ _ _
  | exact fastjson_zzFold.mono _ _ _
  | exact LeO.none _
  | refine LeO.ite ?_ ?_
  | refine LeO.bind ?_ (fun _ => ?_)
theorem fastjson_parseRawNumber.mono : ∀ a0 k, LeO (fastjson_parseRawNumber.f k a0) (fastjson_parseRawNumber.f (k + 1) a0) := by
 intro a0 k
 obtain ⟨ih0, ih1, ih2⟩ := fastjson_parseRawNumber.mono_l k
 unfold fastjson_parseRawNumber.f
 repeat' first
   | (with_reducible exact ih0 _ _ _)
   | (with_reducible exact ih1 _ _ _ _ _)
   | (with_reducible exact ih2 _ _ _)
   | (with_reducible exact fastjson_zzFold.mono _ _ _)
   | (with_reducible exact LeO.refl _)
   | (with_reducible exact LeO.none _)
   | (with_reducible refine LeO.ite ?_ ?_)
   | (with_reducible refine LeO.bind ?_ (fun _ => ?_))
   | exact ih0 _ _ _
   | exact ih1 _ _ _ _ _
   | exact ih2 _ _ _
   | exact fastjson_zzFold.mono _ _ _
   | exact LeO.none _
   | refine LeO.ite ?_ ?_
   | refine LeO.bind ?_ (fun _ => ?_)
set_option maxHeartbeats 8000000 in
set_option maxRecDepth 100000 in
theorem fastjson_parseRawNumber.calls (k : Nat) (a0 : ByteArray) (r1 : ByteArray) (r2 : ByteArray) (r3 : Option Int) (w : World) (h : fastjson_parseRawNumber.f k a0 = some (r1, r2, r3)) :
  Calls Tryd.prog 75 #[.string a0] w fun e w' => ∃ (et2_ : Nat) (ep2_ : Value), e = .returned (.tuple #[.string r1, .string r2, errX et2_ ep2_ r3]) ∧ Below w.heap.size w w' := by
 have HB := Aside0.mk (Below.refl w.heap.size w)
 have H : (fastjson_parseRawNumber.l0 k a0 (a0.size : Int) 0) = some (r1, r2, r3) := h
 clear h
 have H' := Aside0.mk H
 clear H
 go_enter Tryd.func75, Tryd.ntmps75
 go_wp2
 repeat (go_quiet (fail); try go_wp2)
 try simp only [Act.put, List.setIfInBounds_toArray, List.set_cons_succ, List.set_cons_zero]
 go_loopg [0, 11] k (fun kq v0 v11 w' => ∃ (x0_1 : ByteArray) (x11_1 : Int), v0 = .string x0_1 ∧ v11 = .int .i64 x11_1 ∧ Aside0 (fastjson_parseRawNumber.l0 kq x0_1 (a0.size : Int) x11_1 = some (r1, r2, r3)) ∧ Aside0 (kq ≤ k) ∧ Aside0 (Below w.heap.size w w'))
 case atStart => exact ⟨(a0), (0), (by first | rfl | (simp; done) | (simp [*]; done)), (by first | rfl | (simp; done) | (simp [*]; done)), H', ⟨Nat.le_refl _⟩, ⟨by repeat (first | (with_reducible first | exact HB.out | apply below_alloc | apply pw_below_drewN | apply below_drew1) | exact HB.out)⟩⟩
 case round =>
  clear H'
  obtain ⟨x0_1, x11_1, rfl, rfl, HA, HK1, HB⟩ := hrel
  cases gk with
  | zero => exact absurd HA.out (by simp [fastjson_parseRawNumber.l0])
  | succ k1 =>
   have H := HA.out
   clear HA
   simp only [fastjson_parseRawNumber.l0] at H
   by_cases c2 : x11_1 < (a0.size : Int)
   ·rw [if_pos c2] at H
    have c2b0 : decide (x11_1 < (a0.size : Int)) = true := decide_eq_true c2
    clear c2
    by_cases c3 : 0 ≤ x11_1
    ·rw [if_pos c3] at H
     have c3b0 : decide (0 ≤ x11_1) = true := decide_eq_true c3
     clear c3
     by_cases c4 : x11_1 < (x0_1.size : Int)
     ·rw [if_pos c4] at H
      have c4b0 : decide (x11_1 < (x0_1.size : Int)) = true := decide_eq_true c4
      clear c4
      have HC6 := Aside0.mk H
      clear H
      have p5 : 0 ≤ (x11_1 : Int) := of_decide_eq_true (by assumption)
      have q5 : x11_1 < (x0_1.size : Int) := of_decide_eq_true (by assumption)
      have hx5 := bt_at x0_1 x11_1
      replace p5 := eq_true p5
      replace q5 := eq_true q5
      go_upto_region 5 with (fail)
      repeat (go_quiet (fail); go_upto_region 5 with (fail))
      go_cut [42] (fun v42 wc => ∃ (kq : Nat) (x42_5 : Bool), v42 = .bool x42_5 ∧ Aside0 (fastjson_parseRawNumber.j1 kq x0_1 x11_1 (a0.size : Int) x11_1 x42_5 = some (r1, r2, r3)) ∧ Aside0 (kq ≤ k1) ∧ Aside0 (Below w.heap.size w wc))
      case first =>
       have H := HC6.out
       clear HC6
       by_cases c7 : (bt x0_1 x11_1) ≥ 48
       ·rw [if_pos c7] at H
        have c7b0 : decide (48 ≤ (bt x0_1 x11_1)) = true := decide_eq_true c7
        clear c7
        (first | rw [c7b0] | (simp only [i64_w, i32_w]; rw [c7b0]) | rw [c7b1] | skip)
        by_cases c8 : (bt x0_1 x11_1) ≤ 57
        ·rw [if_pos c8] at H
         have c8b0 : decide ((bt x0_1 x11_1) ≤ 57) = true := decide_eq_true c8
         clear c8
         have H' := Aside0.mk H
         clear H
         go_wp2
         repeat (go_quiet (fail); try go_wp2)
         go_meet
         case rel => exact ⟨_, (true), (by first | rfl | (simp; done) | (simp [*]; done)), H', ⟨by have := HK1.out; first | omega | exact Nat.le_refl _⟩, ⟨by repeat (first | (with_reducible first | exact HB.out | apply below_alloc | apply pw_below_drewN | apply below_drew1) | exact HB.out)⟩⟩
        rw [if_neg c8] at H
        have c8b0 : decide ((bt x0_1 x11_1) ≤ 57) = false := decide_eq_false c8
        clear c8
        by_cases c9 : (bt x0_1 x11_1) = 46
        ·rw [if_pos c9] at H
         have c9b0 : ((bt x0_1 x11_1) == 46) = true := beq_iff_eq.mpr c9
         have c9b1 : ((bt x0_1 x11_1) != 46) = false := bne_eq_false_iff_eq.mpr c9
         clear c9
         have H' := Aside0.mk H
         clear H
         go_wp2
         repeat (go_quiet (fail); try go_wp2)
         go_meet
         case rel => exact ⟨_, (true), (by first | rfl | (simp; done) | (simp [*]; done)), H', ⟨by have := HK1.out; first | omega | exact Nat.le_refl _⟩, ⟨by repeat (first | (with_reducible first | exact HB.out | apply below_alloc | apply pw_below_drewN | apply below_drew1) | exact HB.out)⟩⟩
        rw [if_neg c9] at H
        have c9b0 : ((bt x0_1 x11_1) == 46) = false := beq_eq_false_iff_ne.mpr c9
        have c9b1 : ((bt x0_1 x11_1) != 46) = true := bne_iff_ne.mpr c9
        by_cases c10 : (bt x0_1 x11_1) = 45
        ·rw [if_pos c10] at H
         have c10b0 : ((bt x0_1 x11_1) == 45) = true := beq_iff_eq.mpr c10
         have c10b1 : ((bt x0_1 x11_1) != 45) = false := bne_eq_false_iff_eq.mpr c10
         clear c10
         have H' := Aside0.mk H
         clear H
         go_wp2
         repeat (go_quiet (fail); try go_wp2)
         go_meet
         case rel => exact ⟨_, (true), (by first | rfl | (simp; done) | (simp [*]; done)), H', ⟨by have := HK1.out; first | omega | exact Nat.le_refl _⟩, ⟨by repeat (first | (with_reducible first | exact HB.out | apply below_alloc | apply pw_below_drewN | apply below_drew1) | exact HB.out)⟩⟩
        rw [if_neg c10] at H
        have c10b0 : ((bt x0_1 x11_1) == 45) = false := beq_eq_false_iff_ne.mpr c10
        have c10b1 : ((bt x0_1 x11_1) != 45) = true := bne_iff_ne.mpr c10
        by_cases c11 : (bt x0_1 x11_1) = 101
        ·rw [if_pos c11] at H
         have c11b0 : ((bt x0_1 x11_1) == 101) = true := beq_iff_eq.mpr c11
         have c11b1 : ((bt x0_1 x11_1) != 101) = false := bne_eq_false_iff_eq.mpr c11
         clear c11
         have H' := Aside0.mk H
         clear H
         go_wp2
         repeat (go_quiet (fail); try go_wp2)
         go_meet
         case rel => exact ⟨_, (true), (by first | rfl | (simp; done) | (simp [*]; done)), H', ⟨by have := HK1.out; first | omega | exact Nat.le_refl _⟩, ⟨by repeat (first | (with_reducible first | exact HB.out | apply below_alloc | apply pw_below_drewN | apply below_drew1) | exact HB.out)⟩⟩
        rw [if_neg c11] at H
        have c11b0 : ((bt x0_1 x11_1) == 101) = false := beq_eq_false_iff_ne.mpr c11
        have c11b1 : ((bt x0_1 x11_1) != 101) = true := bne_iff_ne.mpr c11
        by_cases c12 : (bt x0_1 x11_1) = 69
        ·rw [if_pos c12] at H
         have c12b0 : ((bt x0_1 x11_1) == 69) = true := beq_iff_eq.mpr c12
         have c12b1 : ((bt x0_1 x11_1) != 69) = false := bne_eq_false_iff_eq.mpr c12
         clear c12
         have H' := Aside0.mk H
         clear H
         go_wp2
         repeat (go_quiet (fail); try go_wp2)
         go_meet
         case rel => exact ⟨_, (true), (by first | rfl | (simp; done) | (simp [*]; done)), H', ⟨by have := HK1.out; first | omega | exact Nat.le_refl _⟩, ⟨by repeat (first | (with_reducible first | exact HB.out | apply below_alloc | apply pw_below_drewN | apply below_drew1) | exact HB.out)⟩⟩
        rw [if_neg c12] at H
        have c12b0 : ((bt x0_1 x11_1) == 69) = false := beq_eq_false_iff_ne.mpr c12
        have c12b1 : ((bt x0_1 x11_1) != 69) = true := bne_iff_ne.mpr c12
        have H' := Aside0.mk H
        clear H
        go_wp2
        repeat (go_quiet (fail); try go_wp2)
        go_meet
        case rel => exact ⟨_, (((bt x0_1 x11_1) == 43)), (by first | rfl | (simp; done) | (simp [*]; done)), H', ⟨by have := HK1.out; first | omega | exact Nat.le_refl _⟩, ⟨by repeat (first | (with_reducible first | exact HB.out | apply below_alloc | apply pw_below_drewN | apply below_drew1) | exact HB.out)⟩⟩
       rw [if_neg c7] at H
       have c7b0 : decide (48 ≤ (bt x0_1 x11_1)) = false := decide_eq_false c7
       clear c7
       (first | rw [c7b0] | (simp only [i64_w, i32_w]; rw [c7b0]) | rw [c7b1] | skip)
       by_cases c13 : (bt x0_1 x11_1) = 46
       ·rw [if_pos c13] at H
        have c13b0 : ((bt x0_1 x11_1) == 46) = true := beq_iff_eq.mpr c13
        have c13b1 : ((bt x0_1 x11_1) != 46) = false := bne_eq_false_iff_eq.mpr c13
        clear c13
        have H' := Aside0.mk H
        clear H
        go_wp2
        repeat (go_quiet (fail); try go_wp2)
        go_meet
        case rel => exact ⟨_, (true), (by first | rfl | (simp; done) | (simp [*]; done)), H', ⟨by have := HK1.out; first | omega | exact Nat.le_refl _⟩, ⟨by repeat (first | (with_reducible first | exact HB.out | apply below_alloc | apply pw_below_drewN | apply below_drew1) | exact HB.out)⟩⟩
       rw [if_neg c13] at H
       have c13b0 : ((bt x0_1 x11_1) == 46) = false := beq_eq_false_iff_ne.mpr c13
       have c13b1 : ((bt x0_1 x11_1) != 46) = true := bne_iff_ne.mpr c13
       by_cases c14 : (bt x0_1 x11_1) = 45
       ·rw [if_pos c14] at H
        have c14b0 : ((bt x0_1 x11_1) == 45) = true := beq_iff_eq.mpr c14
        have c14b1 : ((bt x0_1 x11_1) != 45) = false := bne_eq_false_iff_eq.mpr c14
        clear c14
        have H' := Aside0.mk H
        clear H
        go_wp2
        repeat (go_quiet (fail); try go_wp2)
        go_meet
        case rel => exact ⟨_, (true), (by first | rfl | (simp; done) | (simp [*]; done)), H', ⟨by have := HK1.out; first | omega | exact Nat.le_refl _⟩, ⟨by repeat (first | (with_reducible first | exact HB.out | apply below_alloc | apply pw_below_drewN | apply below_drew1) | exact HB.out)⟩⟩
       rw [if_neg c14] at H
       have c14b0 : ((bt x0_1 x11_1) == 45) = false := beq_eq_false_iff_ne.mpr c14
       have c14b1 : ((bt x0_1 x11_1) != 45) = true := bne_iff_ne.mpr c14
       by_cases c15 : (bt x0_1 x11_1) = 101
       ·rw [if_pos c15] at H
        have c15b0 : ((bt x0_1 x11_1) == 101) = true := beq_iff_eq.mpr c15
        have c15b1 : ((bt x0_1 x11_1) != 101) = false := bne_eq_false_iff_eq.mpr c15
        clear c15
        have H' := Aside0.mk H
        clear H
        go_wp2
        repeat (go_quiet (fail); try go_wp2)
        go_meet
        case rel => exact ⟨_, (true), (by first | rfl | (simp; done) | (simp [*]; done)), H', ⟨by have := HK1.out; first | omega | exact Nat.le_refl _⟩, ⟨by repeat (first | (with_reducible first | exact HB.out | apply below_alloc | apply pw_below_drewN | apply below_drew1) | exact HB.out)⟩⟩
       rw [if_neg c15] at H
       have c15b0 : ((bt x0_1 x11_1) == 101) = false := beq_eq_false_iff_ne.mpr c15
       have c15b1 : ((bt x0_1 x11_1) != 101) = true := bne_iff_ne.mpr c15
       by_cases c16 : (bt x0_1 x11_1) = 69
       ·rw [if_pos c16] at H
        have c16b0 : ((bt x0_1 x11_1) == 69) = true := beq_iff_eq.mpr c16
        have c16b1 : ((bt x0_1 x11_1) != 69) = false := bne_eq_false_iff_eq.mpr c16
        clear c16
        have H' := Aside0.mk H
        clear H
        go_wp2
        repeat (go_quiet (fail); try go_wp2)
        go_meet
        case rel => exact ⟨_, (true), (by first | rfl | (simp; done) | (simp [*]; done)), H', ⟨by have := HK1.out; first | omega | exact Nat.le_refl _⟩, ⟨by repeat (first | (with_reducible first | exact HB.out | apply below_alloc | apply pw_below_drewN | apply below_drew1) | exact HB.out)⟩⟩
       rw [if_neg c16] at H
       have c16b0 : ((bt x0_1 x11_1) == 69) = false := beq_eq_false_iff_ne.mpr c16
       have c16b1 : ((bt x0_1 x11_1) != 69) = true := bne_iff_ne.mpr c16
       have H' := Aside0.mk H
       clear H
       go_wp2
       repeat (go_quiet (fail); try go_wp2)
       go_meet
       case rel => exact ⟨_, (((bt x0_1 x11_1) == 43)), (by first | rfl | (simp; done) | (simp [*]; done)), H', ⟨by have := HK1.out; first | omega | exact Nat.le_refl _⟩, ⟨by repeat (first | (with_reducible first | exact HB.out | apply below_alloc | apply pw_below_drewN | apply below_drew1) | exact HB.out)⟩⟩
      case rest =>
       clear HC6
       try clear c1
       try clear c2
       try clear c2b0
       try clear p2
       try clear c3
       try clear c3b0
       try clear c4
       try clear c4b0
       try clear p5
       try clear q5
       try clear hx5
       try clear c7
       try clear c7b0
       try clear c7b1
       try clear c8
       try clear c8b0
       try clear c9
       try clear c9b0
       try clear c9b1
       try clear c10
       try clear c10b0
       try clear c10b1
       try clear c11
       try clear c11b0
       try clear c11b1
       try clear c12
       try clear c12b0
       try clear c12b1
       try clear c13
       try clear c13b0
       try clear c13b1
       try clear c14
       try clear c14b0
       try clear c14b1
       try clear c15
       try clear c15b0
       try clear c15b1
       try clear c16
       try clear c16b0
       try clear c16b1
       try clear p5
       try clear q5
       obtain ⟨kq, x42_5, rfl, HA, HJ5, HB⟩ := hcut
       cases kq with
       | zero => exact absurd HA.out (by simp [fastjson_parseRawNumber.j1])
       | succ kj5 =>
        have H := HA.out
        clear HA
        simp only [fastjson_parseRawNumber.j1] at H
        by_cases c17 : x42_5 = true
        ·subst c17
         have H1 : (fastjson_parseRawNumber.l0 kj5 x0_1 (a0.size : Int) (wrap64 (x11_1 + 1))) = some (r1, r2, r3) := by rw [if_pos rfl] at H; exact H
         clear H
         have H := H1
         clear H1
         have H' := Aside0.mk H
         clear H
         go_wp2
         repeat (go_quiet (fail); try go_wp2)
         go_roundg kj5
         case measure => have := HK1.out; have := HJ5.out; omega
         case rel => exact ⟨(x0_1), (wrap64 (x11_1 + 1)), (by first | rfl | (simp; done) | (simp [*]; done)), (by first | rfl | (simp; done) | (simp [*]; done)), H', ⟨by have := HK1.out; have := HJ5.out; omega⟩, ⟨by repeat (first | (with_reducible first | exact HB.out | apply below_alloc | apply pw_below_drewN | apply below_drew1) | exact HB.out)⟩⟩
        replace c17 := Bool.eq_false_iff.mpr c17
        subst c17
        have H1 : (if x11_1 = 0 then (fastjson_parseRawNumber.j2 kj5 x0_1 x11_1 true) else (if x11_1 = 1 then (if 0 < (x0_1.size : Int) then (if (bt x0_1 0) = 45 then (fastjson_parseRawNumber.j2 kj5 x0_1 x11_1 true) else (fastjson_parseRawNumber.j2 kj5 x0_1 x11_1 ((bt x0_1 0) == 43))) else (none)) else (fastjson_parseRawNumber.j2 kj5 x0_1 x11_1 false))) = some (r1, r2, r3) := by rw [if_neg (show ¬ (false = true) by decide)] at H; exact H
        clear H
        have H := H1
        clear H1
        have HC18 := Aside0.mk H
        clear H
        go_upto_region 6 with (fail)
        repeat (go_quiet (fail); go_upto_region 6 with (fail))
        go_cut [58] (fun v58 wc => ∃ (kq : Nat) (x58_17 : Bool), v58 = .bool x58_17 ∧ Aside0 (fastjson_parseRawNumber.j2 kq x0_1 x11_1 x58_17 = some (r1, r2, r3)) ∧ Aside0 (kq ≤ kj5) ∧ Aside0 (Below w.heap.size w wc))
        case first =>
         have H := HC18.out
         clear HC18
         by_cases c19 : x11_1 = 0
         ·rw [if_pos c19] at H
          have c19b0 : (x11_1 == 0) = true := beq_iff_eq.mpr c19
          have c19b1 : (x11_1 != 0) = false := bne_eq_false_iff_eq.mpr c19
          clear c19
          (first | rw [c19b0] | (simp only [i64_w, i32_w]; rw [c19b0]) | rw [c19b1] | skip)
          have H' := Aside0.mk H
          clear H
          go_wp2
          repeat (go_quiet (fail); try go_wp2)
          go_meet
          case rel => exact ⟨_, (true), (by first | rfl | (simp; done) | (simp [*]; done)), H', ⟨by have := HK1.out; have := HJ5.out; first | omega | exact Nat.le_refl _⟩, ⟨by repeat (first | (with_reducible first | exact HB.out | apply below_alloc | apply pw_below_drewN | apply below_drew1) | exact HB.out)⟩⟩
         rw [if_neg c19] at H
         have c19b0 : (x11_1 == 0) = false := beq_eq_false_iff_ne.mpr c19
         have c19b1 : (x11_1 != 0) = true := bne_iff_ne.mpr c19
         (first | rw [c19b0] | (simp only [i64_w, i32_w]; rw [c19b0]) | rw [c19b1] | skip)
         by_cases c20 : x11_1 = 1
         ·rw [if_pos c20] at H
          have c20b0 : (x11_1 == 1) = true := beq_iff_eq.mpr c20
          have c20b1 : (x11_1 != 1) = false := bne_eq_false_iff_eq.mpr c20
          clear c20
          by_cases c21 : 0 < (x0_1.size : Int)
          ·rw [if_pos c21] at H
           have c21b0 : decide (0 < (x0_1.size : Int)) = true := decide_eq_true c21
           have c21b1 : decide (0 < x0_1.size) = true := decide_eq_true (by omega)
           clear c21
           by_cases c23 : (bt x0_1 0) = 45
           ·rw [if_pos c23] at H
            have c23b0 : ((bt x0_1 0) == 45) = true := beq_iff_eq.mpr c23
            have c23b1 : ((bt x0_1 0) != 45) = false := bne_eq_false_iff_eq.mpr c23
            clear c23
            have H' := Aside0.mk H
            clear H
            have p22 : 0 ≤ (0 : Int) := (by omega)
            have q22 : 0 < x0_1.size := (by have : (0 : Int) < (x0_1.size : Int) := of_decide_eq_true (by assumption); omega)
            have hx22 : ∀ h : 0 < x0_1.size, ((x0_1[0]'h).toNat : Int) = bt x0_1 0 := bt_at x0_1 0
            clear p22
            have qi22 : (0 < (x0_1.size : Int)) = True := eq_true (of_decide_eq_true (by assumption))
            replace q22 := eq_true q22
            go_wp2
            repeat (go_quiet (fail); try go_wp2)
            go_meet
            case rel => exact ⟨_, (true), (by first | rfl | (simp; done) | (simp [*]; done)), H', ⟨by have := HK1.out; have := HJ5.out; first | omega | exact Nat.le_refl _⟩, ⟨by repeat (first | (with_reducible first | exact HB.out | apply below_alloc | apply pw_below_drewN | apply below_drew1) | exact HB.out)⟩⟩
           rw [if_neg c23] at H
           have c23b0 : ((bt x0_1 0) == 45) = false := beq_eq_false_iff_ne.mpr c23
           have c23b1 : ((bt x0_1 0) != 45) = true := bne_iff_ne.mpr c23
           have H' := Aside0.mk H
           clear H
           have p22 : 0 ≤ (0 : Int) := (by omega)
           have q22 : 0 < x0_1.size := (by have : (0 : Int) < (x0_1.size : Int) := of_decide_eq_true (by assumption); omega)
           have hx22 : ∀ h : 0 < x0_1.size, ((x0_1[0]'h).toNat : Int) = bt x0_1 0 := bt_at x0_1 0
           clear p22
           have qi22 : (0 < (x0_1.size : Int)) = True := eq_true (of_decide_eq_true (by assumption))
           replace q22 := eq_true q22
           have p24 : 0 ≤ (0 : Int) := (by omega)
           have q24 : 0 < x0_1.size := (by have : (0 : Int) < (x0_1.size : Int) := of_decide_eq_true (by assumption); omega)
           have hx24 : ∀ h : 0 < x0_1.size, ((x0_1[0]'h).toNat : Int) = bt x0_1 0 := bt_at x0_1 0
           clear p24
           have qi24 : (0 < (x0_1.size : Int)) = True := eq_true (of_decide_eq_true (by assumption))
           replace q24 := eq_true q24
           go_wp2
           repeat (go_quiet (fail); try go_wp2)
           go_meet
           case rel => exact ⟨_, (((bt x0_1 0) == 43)), (by first | rfl | (simp; done) | (simp [*]; done)), H', ⟨by have := HK1.out; have := HJ5.out; first | omega | exact Nat.le_refl _⟩, ⟨by repeat (first | (with_reducible first | exact HB.out | apply below_alloc | apply pw_below_drewN | apply below_drew1) | exact HB.out)⟩⟩
          rw [if_neg c21] at H
          exact absurd H (by simp)
         rw [if_neg c20] at H
         have c20b0 : (x11_1 == 1) = false := beq_eq_false_iff_ne.mpr c20
         have c20b1 : (x11_1 != 1) = true := bne_iff_ne.mpr c20
         have H' := Aside0.mk H
         clear H
         go_wp2
         repeat (go_quiet (fail); try go_wp2)
         go_meet
         case rel => exact ⟨_, (false), (by first | rfl | (simp; done) | (simp [*]; done)), H', ⟨by have := HK1.out; have := HJ5.out; first | omega | exact Nat.le_refl _⟩, ⟨by repeat (first | (with_reducible first | exact HB.out | apply below_alloc | apply pw_below_drewN | apply below_drew1) | exact HB.out)⟩⟩
        case rest =>
         clear HC18
         try clear c1
         try clear c2
         try clear c2b0
         try clear p2
         try clear q2
         try clear hx2
         try clear qi2
         try clear c3
         try clear c3b0
         try clear c4
         try clear c4b0
         try clear p5
         try clear q5
         try clear hx5
         try clear p6
         try clear c7
         try clear c7b0
         try clear c7b1
         try clear c8
         try clear c8b0
         try clear c9
         try clear c9b0
         try clear c9b1
         try clear c10
         try clear c10b0
         try clear c10b1
         try clear c11
         try clear c11b0
         try clear c11b1
         try clear c12
         try clear c12b0
         try clear c12b1
         try clear c13
         try clear c13b0
         try clear c13b1
         try clear c14
         try clear c14b0
         try clear c14b1
         try clear c15
         try clear c15b0
         try clear c15b1
         try clear c16
         try clear c16b0
         try clear c16b1
         try clear c17
         try clear c19
         try clear c19b0
         try clear c19b1
         try clear c20
         try clear c20b0
         try clear c20b1
         try clear c21
         try clear c21b0
         try clear c21b1
         try clear p22
         try clear q22
         try clear hx22
         try clear qi22
         try clear c23
         try clear c23b0
         try clear c23b1
         try clear p24
         try clear q24
         try clear hx24
         try clear qi24
         try clear p2
         try clear p22
         try clear p24
         try clear p5
         try clear q22
         try clear q24
         try clear q5
         obtain ⟨kq, x58_17, rfl, HA, HJ17, HB⟩ := hcut
         cases kq with
         | zero => exact absurd HA.out (by simp [fastjson_parseRawNumber.j2])
         | succ kj17 =>
          have H := HA.out
          clear HA
          simp only [fastjson_parseRawNumber.j2] at H
          by_cases c25 : x58_17 = true
          ·subst c25
           have H1 : (if 0 ≤ x11_1 then (if x11_1 ≤ (x0_1.size : Int) then (if ((x0_1.extract (x11_1 : Int).toNat x0_1.size).size : Int) ≥ 3 then (if x11_1 ≤ (wrap64 (x11_1 + 3)) then (if (wrap64 (x11_1 + 3)) ≤ (x0_1.size : Int) then ((fastjson_zzFold.f kj17 (x0_1.extract (x11_1 : Int).toNat ((wrap64 (x11_1 + 3)) : Int).toNat) (⟨#[105, 110, 102]⟩ : ByteArray)).bind fun t172 => (if t172 = true then (if 0 ≤ (wrap64 (x11_1 + 3)) then (some (x0_1.extract 0 ((wrap64 (x11_1 + 3)) : Int).toNat, x0_1.extract ((wrap64 (x11_1 + 3)) : Int).toNat x0_1.size, none)) else (none)) else ((fastjson_zzFold.f kj17 (x0_1.extract (x11_1 : Int).toNat ((wrap64 (x11_1 + 3)) : Int).toNat) (⟨#[110, 97, 110]⟩ : ByteArray)).bind fun t173 => (if t173 = true then (if 0 ≤ (wrap64 (x11_1 + 3)) then (some (x0_1.extract 0 ((wrap64 (x11_1 + 3)) : Int).toNat, x0_1.extract ((wrap64 (x11_1 + 3)) : Int).toNat x0_1.size, none)) else (none)) else ((errors_New.f (⟨#[117, 110, 101, 120, 112, 101, 99, 116, 101, 100, 32, 99, 104, 97, 114]⟩ : ByteArray)).bind fun t174 => (some ((⟨#[]⟩ : ByteArray), x0_1, t174))))))) else (none)) else (none)) else ((errors_New.f (⟨#[117, 110, 101, 120, 112, 101, 99, 116, 101, 100, 32, 99, 104, 97, 114]⟩ : ByteArray)).bind fun t175 => (some ((⟨#[]⟩ : ByteArray), x0_1, t175)))) else (none)) else (none)) = some (r1, r2, r3) := by rw [if_pos rfl] at H; exact H
           clear H
           have H := H1
           clear H1
           by_cases c26 : 0 ≤ x11_1
           ·rw [if_pos c26] at H
            have c26b0 := eq_true c26
            have c26b1 : decide (0 ≤ x11_1) = true := decide_eq_true c26
            clear c26
            by_cases c27 : x11_1 ≤ (x0_1.size : Int)
            ·rw [if_pos c27] at H
             have c27b0 := eq_true c27
             have c27b1 : decide (x11_1 ≤ (x0_1.size : Int)) = true := decide_eq_true c27
             clear c27
             obtain ⟨js28, hjs28⟩ : ∃ z_ : ByteArray, (x0_1.extract (x11_1 : Int).toNat x0_1.size) = z_ := ⟨_, rfl⟩
             replace H : (if (js28.size : Int) ≥ 3 then (if x11_1 ≤ (wrap64 (x11_1 + 3)) then (if (wrap64 (x11_1 + 3)) ≤ (x0_1.size : Int) then ((fastjson_zzFold.f kj17 (x0_1.extract (x11_1 : Int).toNat ((wrap64 (x11_1 + 3)) : Int).toNat) (⟨#[105, 110, 102]⟩ : ByteArray)).bind fun t172 => (if t172 = true then (if 0 ≤ (wrap64 (x11_1 + 3)) then (some (x0_1.extract 0 ((wrap64 (x11_1 + 3)) : Int).toNat, x0_1.extract ((wrap64 (x11_1 + 3)) : Int).toNat x0_1.size, none)) else (none)) else ((fastjson_zzFold.f kj17 (x0_1.extract (x11_1 : Int).toNat ((wrap64 (x11_1 + 3)) : Int).toNat) (⟨#[110, 97, 110]⟩ : ByteArray)).bind fun t173 => (if t173 = true then (if 0 ≤ (wrap64 (x11_1 + 3)) then (some (x0_1.extract 0 ((wrap64 (x11_1 + 3)) : Int).toNat, x0_1.extract ((wrap64 (x11_1 + 3)) : Int).toNat x0_1.size, none)) else (none)) else ((errors_New.f (⟨#[117, 110, 101, 120, 112, 101, 99, 116, 101, 100, 32, 99, 104, 97, 114]⟩ : ByteArray)).bind fun t174 => (some ((⟨#[]⟩ : ByteArray), x0_1, t174))))))) else (none)) else (none)) else ((errors_New.f (⟨#[117, 110, 101, 120, 112, 101, 99, 116, 101, 100, 32, 99, 104, 97, 114]⟩ : ByteArray)).bind fun t175 => (some ((⟨#[]⟩ : ByteArray), x0_1, t175)))) = some (r1, r2, r3) := by first | (rw [hjs28] at H; exact H) | (simp only [hjs28] at H ⊢; exact H)
             by_cases c29 : (js28.size : Int) ≥ 3
             ·rw [if_pos c29] at H
              have c29b0 : decide (3 ≤ (js28.size : Int)) = true := decide_eq_true c29
              have c29b1 : decide (3 ≤ js28.size) = true := decide_eq_true (by omega)
              clear c29
              have c30b0 := eq_true (of_decide_eq_true (by assumption) : 0 ≤ x11_1)
              by_cases c31 : x11_1 ≤ (wrap64 (x11_1 + 3))
              ·rw [if_pos c31] at H
               have c31b0 := eq_true c31
               have c31b1 : decide (x11_1 ≤ (wrap64 (x11_1 + 3))) = true := decide_eq_true c31
               by_cases c32 : (wrap64 (x11_1 + 3)) ≤ (x0_1.size : Int)
               ·rw [if_pos c32] at H
                have c32b0 := eq_true c32
                have c32b1 : decide ((wrap64 (x11_1 + 3)) ≤ (x0_1.size : Int)) = true := decide_eq_true c32
                obtain ⟨js33, hjs33⟩ : ∃ z_ : ByteArray, (x0_1.extract (x11_1 : Int).toNat ((wrap64 (x11_1 + 3)) : Int).toNat) = z_ := ⟨_, rfl⟩
                replace H : ((fastjson_zzFold.f kj17 js33 (⟨#[105, 110, 102]⟩ : ByteArray)).bind fun t172 => (if t172 = true then (if 0 ≤ (wrap64 (x11_1 + 3)) then (some (x0_1.extract 0 ((wrap64 (x11_1 + 3)) : Int).toNat, x0_1.extract ((wrap64 (x11_1 + 3)) : Int).toNat x0_1.size, none)) else (none)) else ((fastjson_zzFold.f kj17 js33 (⟨#[110, 97, 110]⟩ : ByteArray)).bind fun t173 => (if t173 = true then (if 0 ≤ (wrap64 (x11_1 + 3)) then (some (x0_1.extract 0 ((wrap64 (x11_1 + 3)) : Int).toNat, x0_1.extract ((wrap64 (x11_1 + 3)) : Int).toNat x0_1.size, none)) else (none)) else ((errors_New.f (⟨#[117, 110, 101, 120, 112, 101, 99, 116, 101, 100, 32, 99, 104, 97, 114]⟩ : ByteArray)).bind fun t174 => (some ((⟨#[]⟩ : ByteArray), x0_1, t174))))))) = some (r1, r2, r3) := by first | (rw [hjs33] at H; exact H) | (simp only [hjs33] at H ⊢; exact H)
                replace H := Option.bind_eq_some_iff.mp H
                obtain ⟨t172, A340, H⟩ := H
                replace H : (if t172 = true then (if 0 ≤ (wrap64 (x11_1 + 3)) then (some (x0_1.extract 0 ((wrap64 (x11_1 + 3)) : Int).toNat, x0_1.extract ((wrap64 (x11_1 + 3)) : Int).toNat x0_1.size, none)) else (none)) else ((fastjson_zzFold.f kj17 js33 (⟨#[110, 97, 110]⟩ : ByteArray)).bind fun t173 => (if t173 = true then (if 0 ≤ (wrap64 (x11_1 + 3)) then (some (x0_1.extract 0 ((wrap64 (x11_1 + 3)) : Int).toNat, x0_1.extract ((wrap64 (x11_1 + 3)) : Int).toNat x0_1.size, none)) else (none)) else ((errors_New.f (⟨#[117, 110, 101, 120, 112, 101, 99, 116, 101, 100, 32, 99, 104, 97, 114]⟩ : ByteArray)).bind fun t174 => (some ((⟨#[]⟩ : ByteArray), x0_1, t174)))))) = some (r1, r2, r3) := H
                have A34 := Aside0.mk A340
                clear A340
                by_cases c35 : t172 = true
                ·subst c35
                 have H1 : (if 0 ≤ (wrap64 (x11_1 + 3)) then (some (x0_1.extract 0 ((wrap64 (x11_1 + 3)) : Int).toNat, x0_1.extract ((wrap64 (x11_1 + 3)) : Int).toNat x0_1.size, none)) else (none)) = some (r1, r2, r3) := by rw [if_pos rfl] at H; exact H
                 clear H
                 have H := H1
                 clear H1
                 obtain ⟨ji36, hji36⟩ : ∃ j_ : Int, (wrap64 (x11_1 + 3)) = j_ := ⟨_, rfl⟩
                 replace H : (if 0 ≤ (ji36) then (some (x0_1.extract 0 ((ji36) : Int).toNat, x0_1.extract ((ji36) : Int).toNat x0_1.size, none)) else (none)) = some (r1, r2, r3) := by first | (rw [hji36] at H; exact H) | (simp only [hji36] at H ⊢; exact H)
                 (try rw [hji36] at c31b0)
                 (try rw [hji36] at c31b1)
                 (try rw [hji36] at c31)
                 (try rw [hji36] at c32b0)
                 (try rw [hji36] at c32b1)
                 (try rw [hji36] at c32)
                 (try rw [hji36] at hjs28)
                 (try rw [hji36] at hjs33)
                 (try rw [hji36] at A34)
                 have hji36w : (IntKind.i64.wrap (x11_1 + 3)) = ji36 := (i64_w _).trans hji36
                 by_cases c37 : 0 ≤ (ji36)
                 ·rw [if_pos c37] at H
                  have c37b0 := eq_true c37
                  have c37b1 : decide (0 ≤ (ji36)) = true := decide_eq_true c37
                  clear c37
                  have c38b0 := eq_true (of_decide_eq_true (by assumption) : (ji36) ≤ (x0_1.size : Int))
                  have c39b0 := eq_true (of_decide_eq_true (by assumption) : 0 ≤ (ji36))
                  have c40b0 := eq_true (of_decide_eq_true (by assumption) : (ji36) ≤ (x0_1.size : Int))
                  simp only [Option.some.injEq, Prod.mk.injEq] at H
                  obtain ⟨rfl, rfl, rfl⟩ := H
                  try have hcs41 := fun W_ : World => run_slice_string_l (P := Tryd.prog) W_ 9 x0_1 Tryd.underlying9 .i64 x11_1 (of_decide_eq_true (by assumption)) (of_decide_eq_true (by assumption))
                  (try simp only [hjs28] at hcs41)
                  try have hcs42 := fun W_ : World => run_slice_string (P := Tryd.prog) W_ 9 x0_1 .i64 .i64 x11_1 (ji36) Tryd.underlying9 (of_decide_eq_true (by assumption)) (of_decide_eq_true (by assumption)) (of_decide_eq_true (by assumption))
                  (try simp only [hjs33] at hcs42)
                  go_wp2_with (first | (go_at_call 74; (with_reducible refine (fastjson_zzFold.calls kj17 js33 (⟨#[105, 110, 102]⟩ : ByteArray) true _ A34.out).mono ?_); rintro e w' ⟨rfl, ⟨nd, rfl⟩⟩; (try first | exact ⟨rfl, _, World.drewN_drewN _ _ _⟩ | exact ⟨rfl, _, Eq.trans (World.drewN_drewN _ _ _) (congrArg (World.drewN _) (Nat.add_assoc _ _ _))⟩); try have hcs43 := fun W_ : World => run_slice_string_h (P := Tryd.prog) W_ 9 x0_1 Tryd.underlying9 .i64 (ji36) (of_decide_eq_true (by assumption)) (of_decide_eq_true (by assumption)); try have hcs44 := fun W_ : World => run_slice_string_l (P := Tryd.prog) W_ 9 x0_1 Tryd.underlying9 .i64 (ji36) (of_decide_eq_true (by assumption)) (of_decide_eq_true (by assumption))))
                  repeat (go_quiet (first | (go_at_call 74; (with_reducible refine (fastjson_zzFold.calls kj17 js33 (⟨#[105, 110, 102]⟩ : ByteArray) true _ A34.out).mono ?_); rintro e w' ⟨rfl, ⟨nd, rfl⟩⟩; (try first | exact ⟨rfl, _, World.drewN_drewN _ _ _⟩ | exact ⟨rfl, _, Eq.trans (World.drewN_drewN _ _ _) (congrArg (World.drewN _) (Nat.add_assoc _ _ _))⟩); try have hcs43 := fun W_ : World => run_slice_string_h (P := Tryd.prog) W_ 9 x0_1 Tryd.underlying9 .i64 (ji36) (of_decide_eq_true (by assumption)) (of_decide_eq_true (by assumption)); try have hcs44 := fun W_ : World => run_slice_string_l (P := Tryd.prog) W_ 9 x0_1 Tryd.underlying9 .i64 (ji36) (of_decide_eq_true (by assumption)) (of_decide_eq_true (by assumption)))); try go_wp2_with (first | (go_at_call 74; (with_reducible refine (fastjson_zzFold.calls kj17 js33 (⟨#[105, 110, 102]⟩ : ByteArray) true _ A34.out).mono ?_); rintro e w' ⟨rfl, ⟨nd, rfl⟩⟩; (try first | exact ⟨rfl, _, World.drewN_drewN _ _ _⟩ | exact ⟨rfl, _, Eq.trans (World.drewN_drewN _ _ _) (congrArg (World.drewN _) (Nat.add_assoc _ _ _))⟩); try have hcs43 := fun W_ : World => run_slice_string_h (P := Tryd.prog) W_ 9 x0_1 Tryd.underlying9 .i64 (ji36) (of_decide_eq_true (by assumption)) (of_decide_eq_true (by assumption)); try have hcs44 := fun W_ : World => run_slice_string_l (P := Tryd.prog) W_ 9 x0_1 Tryd.underlying9 .i64 (ji36) (of_decide_eq_true (by assumption)) (of_decide_eq_true (by assumption)))))
                  go_ret3
                  first | exact ⟨0, .nilIface, by first | rfl | (simp [errW_none, errW_some] <;> rfl) | (simp only [← hji36]; first | rfl | (simp [errW_none, errW_some] <;> rfl)) | (simp [*, errW_none, errW_some] <;> rfl) | (simp [errW_none, errW_some] <;> exact ⟨rfl, rfl⟩) | (simp [*, errW_none, errW_some] <;> exact ⟨rfl, rfl⟩), by repeat (first | (with_reducible first | exact HB.out | apply below_alloc | apply pw_below_drewN | apply below_drew1) | exact HB.out)⟩ | exact ⟨⟨0, .nilIface, by first | rfl | (simp [errW_none, errW_some] <;> rfl) | (simp only [← hji36]; first | rfl | (simp [errW_none, errW_some] <;> rfl)) | (simp [*, errW_none, errW_some] <;> rfl) | (simp [errW_none, errW_some] <;> exact ⟨rfl, rfl⟩) | (simp [*, errW_none, errW_some] <;> exact ⟨rfl, rfl⟩)⟩, by repeat (first | (with_reducible first | exact HB.out | apply below_alloc | apply pw_below_drewN | apply below_drew1) | exact HB.out)⟩
                 rw [if_neg c37] at H
                 exact absurd H (by simp)
                replace c35 := Bool.eq_false_iff.mpr c35
                subst c35
                have H1 : ((fastjson_zzFold.f kj17 js33 (⟨#[110, 97, 110]⟩ : ByteArray)).bind fun t173 => (if t173 = true then (if 0 ≤ (wrap64 (x11_1 + 3)) then (some (x0_1.extract 0 ((wrap64 (x11_1 + 3)) : Int).toNat, x0_1.extract ((wrap64 (x11_1 + 3)) : Int).toNat x0_1.size, none)) else (none)) else ((errors_New.f (⟨#[117, 110, 101, 120, 112, 101, 99, 116, 101, 100, 32, 99, 104, 97, 114]⟩ : ByteArray)).bind fun t174 => (some ((⟨#[]⟩ : ByteArray), x0_1, t174))))) = some (r1, r2, r3) := by rw [if_neg (show ¬ (false = true) by decide)] at H; exact H
                clear H
                have H := H1
                clear H1
                replace H := Option.bind_eq_some_iff.mp H
                obtain ⟨t173, A450, H⟩ := H
                replace H : (if t173 = true then (if 0 ≤ (wrap64 (x11_1 + 3)) then (some (x0_1.extract 0 ((wrap64 (x11_1 + 3)) : Int).toNat, x0_1.extract ((wrap64 (x11_1 + 3)) : Int).toNat x0_1.size, none)) else (none)) else ((errors_New.f (⟨#[117, 110, 101, 120, 112, 101, 99, 116, 101, 100, 32, 99, 104, 97, 114]⟩ : ByteArray)).bind fun t174 => (some ((⟨#[]⟩ : ByteArray), x0_1, t174)))) = some (r1, r2, r3) := H
                have A45 := Aside0.mk A450
                clear A450
                by_cases c46 : t173 = true
                ·subst c46
                 have H1 : (if 0 ≤ (wrap64 (x11_1 + 3)) then (some (x0_1.extract 0 ((wrap64 (x11_1 + 3)) : Int).toNat, x0_1.extract ((wrap64 (x11_1 + 3)) : Int).toNat x0_1.size, none)) else (none)) = some (r1, r2, r3) := by rw [if_pos rfl] at H; exact H
                 clear H
                 have H := H1
                 clear H1
                 obtain ⟨ji47, hji47⟩ : ∃ j_ : Int, (wrap64 (x11_1 + 3)) = j_ := ⟨_, rfl⟩
                 replace H : (if 0 ≤ (ji47) then (some (x0_1.extract 0 ((ji47) : Int).toNat, x0_1.extract ((ji47) : Int).toNat x0_1.size, none)) else (none)) = some (r1, r2, r3) := by first | (rw [hji47] at H; exact H) | (simp only [hji47] at H ⊢; exact H)
                 (try rw [hji47] at c31b0)
                 (try rw [hji47] at c31b1)
                 (try rw [hji47] at c31)
                 (try rw [hji47] at c32b0)
                 (try rw [hji47] at c32b1)
                 (try rw [hji47] at c32)
                 (try rw [hji47] at hjs28)
                 (try rw [hji47] at hjs33)
                 (try rw [hji47] at A34)
                 (try rw [hji47] at A45)
                 have hji47w : (IntKind.i64.wrap (x11_1 + 3)) = ji47 := (i64_w _).trans hji47
                 by_cases c48 : 0 ≤ (ji47)
                 ·rw [if_pos c48] at H
                  have c48b0 := eq_true c48
                  have c48b1 : decide (0 ≤ (ji47)) = true := decide_eq_true c48
                  clear c48
                  have c49b0 := eq_true (of_decide_eq_true (by assumption) : (ji47) ≤ (x0_1.size : Int))
                  have c50b0 := eq_true (of_decide_eq_true (by assumption) : 0 ≤ (ji47))
                  have c51b0 := eq_true (of_decide_eq_true (by assumption) : (ji47) ≤ (x0_1.size : Int))
                  simp only [Option.some.injEq, Prod.mk.injEq] at H
                  obtain ⟨rfl, rfl, rfl⟩ := H
                  try have hcs52 := fun W_ : World => run_slice_string_l (P := Tryd.prog) W_ 9 x0_1 Tryd.underlying9 .i64 x11_1 (of_decide_eq_true (by assumption)) (of_decide_eq_true (by assumption))
                  (try simp only [hjs28] at hcs52)
                  try have hcs53 := fun W_ : World => run_slice_string (P := Tryd.prog) W_ 9 x0_1 .i64 .i64 x11_1 (ji47) Tryd.underlying9 (of_decide_eq_true (by assumption)) (of_decide_eq_true (by assumption)) (of_decide_eq_true (by assumption))
                  (try simp only [hjs33] at hcs53)
                  go_wp2_with (first | (go_at_call 74; (with_reducible refine (fastjson_zzFold.calls kj17 js33 (⟨#[105, 110, 102]⟩ : ByteArray) false _ A34.out).mono ?_); rintro e w' ⟨rfl, ⟨nd, rfl⟩⟩; (try first | exact ⟨rfl, _, World.drewN_drewN _ _ _⟩ | exact ⟨rfl, _, Eq.trans (World.drewN_drewN _ _ _) (congrArg (World.drewN _) (Nat.add_assoc _ _ _))⟩)) | (go_at_call 74; (with_reducible refine (fastjson_zzFold.calls kj17 js33 (⟨#[110, 97, 110]⟩ : ByteArray) true _ A45.out).mono ?_); rintro e w' ⟨rfl, ⟨nd, rfl⟩⟩; (try first | exact ⟨rfl, _, World.drewN_drewN _ _ _⟩ | exact ⟨rfl, _, Eq.trans (World.drewN_drewN _ _ _) (congrArg (World.drewN _) (Nat.add_assoc _ _ _))⟩); try have hcs54 := fun W_ : World => run_slice_string_h (P := Tryd.prog) W_ 9 x0_1 Tryd.underlying9 .i64 (ji47) (of_decide_eq_true (by assumption)) (of_decide_eq_true (by assumption)); try have hcs55 := fun W_ : World => run_slice_string_l (P := Tryd.prog) W_ 9 x0_1 Tryd.underlying9 .i64 (ji47) (of_decide_eq_true (by assumption)) (of_decide_eq_true (by assumption))))
                  repeat (go_quiet (first | (go_at_call 74; (with_reducible refine (fastjson_zzFold.calls kj17 js33 (⟨#[105, 110, 102]⟩ : ByteArray) false _ A34.out).mono ?_); rintro e w' ⟨rfl, ⟨nd, rfl⟩⟩; (try first | exact ⟨rfl, _, World.drewN_drewN _ _ _⟩ | exact ⟨rfl, _, Eq.trans (World.drewN_drewN _ _ _) (congrArg (World.drewN _) (Nat.add_assoc _ _ _))⟩)) | (go_at_call 74; (with_reducible refine (fastjson_zzFold.calls kj17 js33 (⟨#[110, 97, 110]⟩ : ByteArray) true _ A45.out).mono ?_); rintro e w' ⟨rfl, ⟨nd, rfl⟩⟩; (try first | exact ⟨rfl, _, World.drewN_drewN _ _ _⟩ | exact ⟨rfl, _, Eq.trans (World.drewN_drewN _ _ _) (congrArg (World.drewN _) (Nat.add_assoc _ _ _))⟩); try have hcs54 := fun W_ : World => run_slice_string_h (P := Tryd.prog) W_ 9 x0_1 Tryd.underlying9 .i64 (ji47) (of_decide_eq_true (by assumption)) (of_decide_eq_true (by assumption)); try have hcs55 := fun W_ : World => run_slice_string_l (P := Tryd.prog) W_ 9 x0_1 Tryd.underlying9 .i64 (ji47) (of_decide_eq_true (by assumption)) (of_decide_eq_true (by assumption)))); try go_wp2_with (first | (go_at_call 74; (with_reducible refine (fastjson_zzFold.calls kj17 js33 (⟨#[105, 110, 102]⟩ : ByteArray) false _ A34.out).mono ?_); rintro e w' ⟨rfl, ⟨nd, rfl⟩⟩; (try first | exact ⟨rfl, _, World.drewN_drewN _ _ _⟩ | exact ⟨rfl, _, Eq.trans (World.drewN_drewN _ _ _) (congrArg (World.drewN _) (Nat.add_assoc _ _ _))⟩)) | (go_at_call 74; (with_reducible refine (fastjson_zzFold.calls kj17 js33 (⟨#[110, 97, 110]⟩ : ByteArray) true _ A45.out).mono ?_); rintro e w' ⟨rfl, ⟨nd, rfl⟩⟩; (try first | exact ⟨rfl, _, World.drewN_drewN _ _ _⟩ | exact ⟨rfl, _, Eq.trans (World.drewN_drewN _ _ _) (congrArg (World.drewN _) (Nat.add_assoc _ _ _))⟩); try have hcs54 := fun W_ : World => run_slice_string_h (P := Tryd.prog) W_ 9 x0_1 Tryd.underlying9 .i64 (ji47) (of_decide_eq_true (by assumption)) (of_decide_eq_true (by assumption)); try have hcs55 := fun W_ : World => run_slice_string_l (P := Tryd.prog) W_ 9 x0_1 Tryd.underlying9 .i64 (ji47) (of_decide_eq_true (by assumption)) (of_decide_eq_true (by assumption)))))
                  go_ret3
                  first | exact ⟨0, .nilIface, by first | rfl | (simp [errW_none, errW_some] <;> rfl) | (simp only [← hji47]; first | rfl | (simp [errW_none, errW_some] <;> rfl)) | (simp [*, errW_none, errW_some] <;> rfl) | (simp [errW_none, errW_some] <;> exact ⟨rfl, rfl⟩) | (simp [*, errW_none, errW_some] <;> exact ⟨rfl, rfl⟩), by repeat (first | (with_reducible first | exact HB.out | apply below_alloc | apply pw_below_drewN | apply below_drew1) | exact HB.out)⟩ | exact ⟨⟨0, .nilIface, by first | rfl | (simp [errW_none, errW_some] <;> rfl) | (simp only [← hji47]; first | rfl | (simp [errW_none, errW_some] <;> rfl)) | (simp [*, errW_none, errW_some] <;> rfl) | (simp [errW_none, errW_some] <;> exact ⟨rfl, rfl⟩) | (simp [*, errW_none, errW_some] <;> exact ⟨rfl, rfl⟩)⟩, by repeat (first | (with_reducible first | exact HB.out | apply below_alloc | apply pw_below_drewN | apply below_drew1) | exact HB.out)⟩
                 rw [if_neg c48] at H
                 exact absurd H (by simp)
                replace c46 := Bool.eq_false_iff.mpr c46
                subst c46
                have H1 : ((errors_New.f (⟨#[117, 110, 101, 120, 112, 101, 99, 116, 101, 100, 32, 99, 104, 97, 114]⟩ : ByteArray)).bind fun t174 => (some ((⟨#[]⟩ : ByteArray), x0_1, t174))) = some (r1, r2, r3) := by rw [if_neg (show ¬ (false = true) by decide)] at H; exact H
                clear H
                have H := H1
                clear H1
                replace H := Option.bind_eq_some_iff.mp H
                obtain ⟨t174, A560, H⟩ := H
                replace H : (some ((⟨#[]⟩ : ByteArray), x0_1, t174)) = some (r1, r2, r3) := H
                have A56 := Aside0.mk A560
                clear A560
                simp only [Option.some.injEq, Prod.mk.injEq] at H
                obtain ⟨rfl, rfl, rfl⟩ := H
                try have hcs57 := fun W_ : World => run_slice_string_l (P := Tryd.prog) W_ 9 x0_1 Tryd.underlying9 .i64 x11_1 (of_decide_eq_true (by assumption)) (of_decide_eq_true (by assumption))
                (try simp only [hjs28] at hcs57)
                try have hcs58 := fun W_ : World => run_slice_string (P := Tryd.prog) W_ 9 x0_1 .i64 .i64 x11_1 (wrap64 (x11_1 + 3)) Tryd.underlying9 (of_decide_eq_true (by assumption)) (of_decide_eq_true (by assumption)) (of_decide_eq_true (by assumption))
                (try simp only [hjs33] at hcs58)
                go_wp2_with (first | (go_at_call 74; (with_reducible refine (fastjson_zzFold.calls kj17 js33 (⟨#[105, 110, 102]⟩ : ByteArray) false _ A34.out).mono ?_); rintro e w' ⟨rfl, ⟨nd, rfl⟩⟩; (try first | exact ⟨rfl, _, World.drewN_drewN _ _ _⟩ | exact ⟨rfl, _, Eq.trans (World.drewN_drewN _ _ _) (congrArg (World.drewN _) (Nat.add_assoc _ _ _))⟩)) | (go_at_call 74; (with_reducible refine (fastjson_zzFold.calls kj17 js33 (⟨#[110, 97, 110]⟩ : ByteArray) false _ A45.out).mono ?_); rintro e w' ⟨rfl, ⟨nd, rfl⟩⟩; (try first | exact ⟨rfl, _, World.drewN_drewN _ _ _⟩ | exact ⟨rfl, _, Eq.trans (World.drewN_drewN _ _ _) (congrArg (World.drewN _) (Nat.add_assoc _ _ _))⟩)) | (go_at_call 41; (with_reducible refine (errors_New.calls (⟨#[117, 110, 101, 120, 112, 101, 99, 116, 101, 100, 32, 99, 104, 97, 114]⟩ : ByteArray) t174 _ A56.out).mono ?_); rintro e w59 ⟨et_A56_0, ep_A56_0, rfl, hb⟩; have n0_ := Aside0.mk (below_step (by repeat (first | (with_reducible first | exact HB.out | apply below_alloc | apply pw_below_drewN | apply below_drew1) | exact HB.out)) hb); clear HB; have HB := n0_; clear n0_; (try clear hb); (try clear hb2); (try clear hk); (try clear hi); (try simp only [errW_none, errW_some, errX_none, errX_some])))
                repeat (go_quiet (first | (go_at_call 74; (with_reducible refine (fastjson_zzFold.calls kj17 js33 (⟨#[105, 110, 102]⟩ : ByteArray) false _ A34.out).mono ?_); rintro e w' ⟨rfl, ⟨nd, rfl⟩⟩; (try first | exact ⟨rfl, _, World.drewN_drewN _ _ _⟩ | exact ⟨rfl, _, Eq.trans (World.drewN_drewN _ _ _) (congrArg (World.drewN _) (Nat.add_assoc _ _ _))⟩)) | (go_at_call 74; (with_reducible refine (fastjson_zzFold.calls kj17 js33 (⟨#[110, 97, 110]⟩ : ByteArray) false _ A45.out).mono ?_); rintro e w' ⟨rfl, ⟨nd, rfl⟩⟩; (try first | exact ⟨rfl, _, World.drewN_drewN _ _ _⟩ | exact ⟨rfl, _, Eq.trans (World.drewN_drewN _ _ _) (congrArg (World.drewN _) (Nat.add_assoc _ _ _))⟩)) | (go_at_call 41; (with_reducible refine (errors_New.calls (⟨#[117, 110, 101, 120, 112, 101, 99, 116, 101, 100, 32, 99, 104, 97, 114]⟩ : ByteArray) t174 _ A56.out).mono ?_); rintro e w59 ⟨et_A56_0, ep_A56_0, rfl, hb⟩; have n0_ := Aside0.mk (below_step (by repeat (first | (with_reducible first | exact HB.out | apply below_alloc | apply pw_below_drewN | apply below_drew1) | exact HB.out)) hb); clear HB; have HB := n0_; clear n0_; (try clear hb); (try clear hb2); (try clear hk); (try clear hi); (try simp only [errW_none, errW_some, errX_none, errX_some]))); try go_wp2_with (first | (go_at_call 74; (with_reducible refine (fastjson_zzFold.calls kj17 js33 (⟨#[105, 110, 102]⟩ : ByteArray) false _ A34.out).mono ?_); rintro e w' ⟨rfl, ⟨nd, rfl⟩⟩; (try first | exact ⟨rfl, _, World.drewN_drewN _ _ _⟩ | exact ⟨rfl, _, Eq.trans (World.drewN_drewN _ _ _) (congrArg (World.drewN _) (Nat.add_assoc _ _ _))⟩)) | (go_at_call 74; (with_reducible refine (fastjson_zzFold.calls kj17 js33 (⟨#[110, 97, 110]⟩ : ByteArray) false _ A45.out).mono ?_); rintro e w' ⟨rfl, ⟨nd, rfl⟩⟩; (try first | exact ⟨rfl, _, World.drewN_drewN _ _ _⟩ | exact ⟨rfl, _, Eq.trans (World.drewN_drewN _ _ _) (congrArg (World.drewN _) (Nat.add_assoc _ _ _))⟩)) | (go_at_call 41; (with_reducible refine (errors_New.calls (⟨#[117, 110, 101, 120, 112, 101, 99, 116, 101, 100, 32, 99, 104, 97, 114]⟩ : ByteArray) t174 _ A56.out).mono ?_); rintro e w59 ⟨et_A56_0, ep_A56_0, rfl, hb⟩; have n0_ := Aside0.mk (below_step (by repeat (first | (with_reducible first | exact HB.out | apply below_alloc | apply pw_below_drewN | apply below_drew1) | exact HB.out)) hb); clear HB; have HB := n0_; clear n0_; (try clear hb); (try clear hb2); (try clear hk); (try clear hi); (try simp only [errW_none, errW_some, errX_none, errX_some]))))
                go_ret3
                first | exact ⟨et_A56_0, ep_A56_0, by first | rfl | (simp [errW_none, errW_some] <;> rfl) | (simp [*, errW_none, errW_some] <;> rfl) | (simp [errW_none, errW_some] <;> exact ⟨rfl, rfl⟩) | (simp [*, errW_none, errW_some] <;> exact ⟨rfl, rfl⟩), by repeat (first | (with_reducible first | exact HB.out | apply below_alloc | apply pw_below_drewN | apply below_drew1) | exact HB.out)⟩ | exact ⟨⟨et_A56_0, ep_A56_0, by first | rfl | (simp [errW_none, errW_some] <;> rfl) | (simp [*, errW_none, errW_some] <;> rfl) | (simp [errW_none, errW_some] <;> exact ⟨rfl, rfl⟩) | (simp [*, errW_none, errW_some] <;> exact ⟨rfl, rfl⟩)⟩, by repeat (first | (with_reducible first | exact HB.out | apply below_alloc | apply pw_below_drewN | apply below_drew1) | exact HB.out)⟩
               rw [if_neg c32] at H
               exact absurd H (by simp)
              rw [if_neg c31] at H
              exact absurd H (by simp)
             rw [if_neg c29] at H
             have c29b0 : decide (3 ≤ (js28.size : Int)) = false := decide_eq_false c29
             have c29b1 : decide (3 ≤ js28.size) = false := decide_eq_false (by omega)
             clear c29
             replace H := Option.bind_eq_some_iff.mp H
             obtain ⟨t175, A600, H⟩ := H
             replace H : (some ((⟨#[]⟩ : ByteArray), x0_1, t175)) = some (r1, r2, r3) := H
             have A60 := Aside0.mk A600
             clear A600
             simp only [Option.some.injEq, Prod.mk.injEq] at H
             obtain ⟨rfl, rfl, rfl⟩ := H
             try have hcs61 := fun W_ : World => run_slice_string_l (P := Tryd.prog) W_ 9 x0_1 Tryd.underlying9 .i64 x11_1 (of_decide_eq_true (by assumption)) (of_decide_eq_true (by assumption))
             (try simp only [hjs28] at hcs61)
             go_wp2_with (first | (go_at_call 41; (with_reducible refine (errors_New.calls (⟨#[117, 110, 101, 120, 112, 101, 99, 116, 101, 100, 32, 99, 104, 97, 114]⟩ : ByteArray) t175 _ A60.out).mono ?_); rintro e w62 ⟨et_A60_0, ep_A60_0, rfl, hb⟩; have n0_ := Aside0.mk (below_step (by repeat (first | (with_reducible first | exact HB.out | apply below_alloc | apply pw_below_drewN | apply below_drew1) | exact HB.out)) hb); clear HB; have HB := n0_; clear n0_; (try clear hb); (try clear hb2); (try clear hk); (try clear hi); (try simp only [errW_none, errW_some, errX_none, errX_some])))
             repeat (go_quiet (first | (go_at_call 41; (with_reducible refine (errors_New.calls (⟨#[117, 110, 101, 120, 112, 101, 99, 116, 101, 100, 32, 99, 104, 97, 114]⟩ : ByteArray) t175 _ A60.out).mono ?_); rintro e w62 ⟨et_A60_0, ep_A60_0, rfl, hb⟩; have n0_ := Aside0.mk (below_step (by repeat (first | (with_reducible first | exact HB.out | apply below_alloc | apply pw_below_drewN | apply below_drew1) | exact HB.out)) hb); clear HB; have HB := n0_; clear n0_; (try clear hb); (try clear hb2); (try clear hk); (try clear hi); (try simp only [errW_none, errW_some, errX_none, errX_some]))); try go_wp2_with (first | (go_at_call 41; (with_reducible refine (errors_New.calls (⟨#[117, 110, 101, 120, 112, 101, 99, 116, 101, 100, 32, 99, 104, 97, 114]⟩ : ByteArray) t175 _ A60.out).mono ?_); rintro e w62 ⟨et_A60_0, ep_A60_0, rfl, hb⟩; have n0_ := Aside0.mk (below_step (by repeat (first | (with_reducible first | exact HB.out | apply below_alloc | apply pw_below_drewN | apply below_drew1) | exact HB.out)) hb); clear HB; have HB := n0_; clear n0_; (try clear hb); (try clear hb2); (try clear hk); (try clear hi); (try simp only [errW_none, errW_some, errX_none, errX_some]))))
             go_ret3
             first | exact ⟨et_A60_0, ep_A60_0, by first | rfl | (simp [errW_none, errW_some] <;> rfl) | (simp [*, errW_none, errW_some] <;> rfl) | (simp [errW_none, errW_some] <;> exact ⟨rfl, rfl⟩) | (simp [*, errW_none, errW_some] <;> exact ⟨rfl, rfl⟩), by repeat (first | (with_reducible first | exact HB.out | apply below_alloc | apply pw_below_drewN | apply below_drew1) | exact HB.out)⟩ | exact ⟨⟨et_A60_0, ep_A60_0, by first | rfl | (simp [errW_none, errW_some] <;> rfl) | (simp [*, errW_none, errW_some] <;> rfl) | (simp [errW_none, errW_some] <;> exact ⟨rfl, rfl⟩) | (simp [*, errW_none, errW_some] <;> exact ⟨rfl, rfl⟩)⟩, by repeat (first | (with_reducible first | exact HB.out | apply below_alloc | apply pw_below_drewN | apply below_drew1) | exact HB.out)⟩
            rw [if_neg c27] at H
            exact absurd H (by simp)
           rw [if_neg c26] at H
           exact absurd H (by simp)
          replace c25 := Bool.eq_false_iff.mpr c25
          subst c25
          have H1 : (if 0 ≤ x11_1 then (if x11_1 ≤ (x0_1.size : Int) then (some (x0_1.extract 0 (x11_1 : Int).toNat, x0_1.extract (x11_1 : Int).toNat x0_1.size, none)) else (none)) else (none)) = some (r1, r2, r3) := by rw [if_neg (show ¬ (false = true) by decide)] at H; exact H
          clear H
          have H := H1
          clear H1
          by_cases c63 : 0 ≤ x11_1
          ·rw [if_pos c63] at H
           have c63b0 := eq_true c63
           have c63b1 : decide (0 ≤ x11_1) = true := decide_eq_true c63
           clear c63
           by_cases c64 : x11_1 ≤ (x0_1.size : Int)
           ·rw [if_pos c64] at H
            have c64b0 := eq_true c64
            have c64b1 : decide (x11_1 ≤ (x0_1.size : Int)) = true := decide_eq_true c64
            clear c64
            have c65b0 := eq_true (of_decide_eq_true (by assumption) : 0 ≤ x11_1)
            have c66b0 := eq_true (of_decide_eq_true (by assumption) : x11_1 ≤ (x0_1.size : Int))
            simp only [Option.some.injEq, Prod.mk.injEq] at H
            obtain ⟨rfl, rfl, rfl⟩ := H
            try have hcs67 := fun W_ : World => run_slice_string_h (P := Tryd.prog) W_ 9 x0_1 Tryd.underlying9 .i64 x11_1 (of_decide_eq_true (by assumption)) (of_decide_eq_true (by assumption))
            try have hcs68 := fun W_ : World => run_slice_string_l (P := Tryd.prog) W_ 9 x0_1 Tryd.underlying9 .i64 x11_1 (of_decide_eq_true (by assumption)) (of_decide_eq_true (by assumption))
            go_wp2
            repeat (go_quiet (fail); try go_wp2)
            go_ret3
            first | exact ⟨0, .nilIface, by first | rfl | (simp [errW_none, errW_some] <;> rfl) | (simp [*, errW_none, errW_some] <;> rfl) | (simp [errW_none, errW_some] <;> exact ⟨rfl, rfl⟩) | (simp [*, errW_none, errW_some] <;> exact ⟨rfl, rfl⟩), by repeat (first | (with_reducible first | exact HB.out | apply below_alloc | apply pw_below_drewN | apply below_drew1) | exact HB.out)⟩ | exact ⟨⟨0, .nilIface, by first | rfl | (simp [errW_none, errW_some] <;> rfl) | (simp [*, errW_none, errW_some] <;> rfl) | (simp [errW_none, errW_some] <;> exact ⟨rfl, rfl⟩) | (simp [*, errW_none, errW_some] <;> exact ⟨rfl, rfl⟩)⟩, by repeat (first | (with_reducible first | exact HB.out | apply below_alloc | apply pw_below_drewN | apply below_drew1) | exact HB.out)⟩
           rw [if_neg c64] at H
           exact absurd H (by simp)
          rw [if_neg c63] at H
          exact absurd H (by simp)
     rw [if_neg c4] at H
     exact absurd H (by simp)
    rw [if_neg c3] at H
    exact absurd H (by simp)
   rw [if_neg c2] at H
   have c2b0 : decide (x11_1 < (a0.size : Int)) = false := decide_eq_false c2
   clear c2
   simp only [Option.some.injEq, Prod.mk.injEq] at H
   obtain ⟨rfl, rfl, rfl⟩ := H
   go_wp2
   repeat (go_quiet (fail); try go_wp2)
   go_ret3
   first | exact ⟨0, .nilIface, by first | rfl | (simp [errW_none, errW_some] <;> rfl) | (simp [*, errW_none, errW_some] <;> rfl) | (simp [errW_none, errW_some] <;> exact ⟨rfl, rfl⟩) | (simp [*, errW_none, errW_some] <;> exact ⟨rfl, rfl⟩), by repeat (first | (with_reducible first | exact HB.out | apply below_alloc | apply pw_below_drewN | apply below_drew1) | exact HB.out)⟩ | exact ⟨⟨0, .nilIface, by first | rfl | (simp [errW_none, errW_some] <;> rfl) | (simp [*, errW_none, errW_some] <;> rfl) | (simp [errW_none, errW_some] <;> exact ⟨rfl, rfl⟩) | (simp [*, errW_none, errW_some] <;> exact ⟨rfl, rfl⟩)⟩, by repeat (first | (with_reducible first | exact HB.out | apply below_alloc | apply pw_below_drewN | apply below_drew1) | exact HB.out)⟩
end Go.Proofs.YtnajijaachgipaaDoor.PT
end
section
namespace Go.Proofs.YtnajijaachgipaaDoor.PT
open Go.RowKit Go.Proofs.YtnajijaachgipaaDoorW.PrintWords Go.Proofs.YtnajijaachgipaaDoorW.PrintLast Go.Proofs.YtnajijaachgipaaDoorW.PrintMore
attribute [local go_sem] max2_int min2_int max_two min_two max_three min_three max_four min_four   -- for this text's walks alone
set_option linter.unusedVariables false
set_option linter.unusedSimpArgs false
/-! ### fastjson_parseRawKey: function 95 -/
def fastjson_parseRawKey.l0 : Nat → ByteArray → Int → Int → Option (ByteArray × ByteArray × Option Int)
 | 0, _, _, _ => none
 | k + 1, x0, x7, x8 => if x8 < x7 then (if 0 ≤ x8 then (if x8 < (x0.size : Int) then (if (bt x0 x8) = 34 then (if x8 ≤ (x0.size : Int) then (if 0 ≤ (wrap64 (x8 + 1)) then (if (wrap64 (x8 + 1)) ≤ (x0.size : Int) then (some (x0.extract 0 (x8 : Int).toNat, x0.extract ((wrap64 (x8 + 1)) : Int).toNat x0.size, none)) else (none)) else (none)) else (none)) else (if (bt x0 x8) = 92 then ((fastjson_parseRawString.f k x0).bind fun bt177 => (some (bt177.1, bt177.2.1, bt177.2.2))) else (fastjson_parseRawKey.l0 k x0 x7 (wrap64 (x8 + 1))))) else (none)) else (none)) else ((errors_New.f (⟨#[109, 105, 115, 115, 105, 110, 103, 32, 99, 108, 111, 115, 105, 110, 103]⟩ : ByteArray)).bind fun t176 => (some (x0, (⟨#[]⟩ : ByteArray), t176)))
def fastjson_parseRawKey.f (k : Nat) (a0 : ByteArray) : Option (ByteArray × ByteArray × Option Int) := fastjson_parseRawKey.l0 k a0 (a0.size : Int) 0
theorem fastjson_parseRawKey.mono_l : ∀ k, (∀ y0 y1 y2, LeO (fastjson_parseRawKey.l0 k y0 y1 y2) (fastjson_parseRawKey.l0 (k + 1) y0 y1 y2))
 | 0 => fun _ _ _ r h => by simp [fastjson_parseRawKey.l0] at h
 | k + 1 => by
  have ih0 := fastjson_parseRawKey.mono_l k
  ·intro y0 y1 y2
   unfold fastjson_parseRawKey.l0
   repeat' first
   | (with_reducible exact ih0 _ _ _)
   | (with_reducible exact fastjson_parseRawString.mono _ _)
   | (with_reducible exact LeO.refl _)
   | (with_reducible exact LeO.none _)
   | (with_reducible refine LeO.ite ?_ ?_)
   | (with_reducible refine LeO.bind ?_ (fun _ => ?_))
   | exact ih0 _ _ _
   | exact fastjson_parseRawString.mono _ _
   | exact LeO.none _
   | refine LeO.ite ?_ ?_
   | refine LeO.bind ?_ (fun _ => ?_)
theorem fastjson_parseRawKey.mono : ∀ a0 k, LeO (fastjson_parseRawKey.f k a0) (fastjson_parseRawKey.f (k + 1) a0) := by
 intro a0 k
 have ih0 := fastjson_parseRawKey.mono_l k
 unfold fastjson_parseRawKey.f
 repeat' first
   | (with_reducible exact ih0 _ _ _)
   | (with_reducible exact fastjson_parseRawString.mono _ _)
   | (with_reducible exact LeO.refl _)
   | (with_reducible exact LeO.none _)
   | (with_reducible refine LeO.ite ?_ ?_)
   | (with_reducible refine LeO.bind ?_ (fun _ => ?_))
   | exact ih0 _ _ _
   | exact fastjson_parseRawString.mono _ _
   | exact LeO.none _
   | refine LeO.ite ?_ ?_
   | refine LeO.bind ?_ (fun _ => ?_)
set_option maxHeartbeats 8000000 in
set_option maxRecDepth 100000 in
theorem fastjson_parseRawKey.calls (k : Nat) (a0 : ByteArray) (r1 : ByteArray) (r2 : ByteArray) (r3 : Option Int) (w : World) (h : fastjson_parseRawKey.f k a0 = some (r1, r2, r3)) :
  Calls Tryd.prog 95 #[.string a0] w fun e w' => ∃ (et2_ : Nat) (ep2_ : Value), e = .returned (.tuple #[.string r1, .string r2, errX et2_ ep2_ r3]) ∧ Below w.heap.size w w' := by
 have HB := Aside0.mk (Below.refl w.heap.size w)
 have H : (fastjson_parseRawKey.l0 k a0 (a0.size : Int) 0) = some (r1, r2, r3) := h
 clear h
 have H' := Aside0.mk H
 clear H
 go_enter Tryd.func95, Tryd.ntmps95
 go_wp2
 repeat (go_quiet (fail); try go_wp2)
 try simp only [Act.put, List.setIfInBounds_toArray, List.set_cons_succ, List.set_cons_zero]
 go_loopg [8] k (fun kq v8 w' => ∃ (x8_1 : Int), v8 = .int .i64 x8_1 ∧ Aside0 (fastjson_parseRawKey.l0 kq a0 (a0.size : Int) x8_1 = some (r1, r2, r3)) ∧ Aside0 (kq ≤ k) ∧ Aside0 (Below w.heap.size w w'))
 case atStart => exact ⟨(0), (by first | rfl | (simp; done) | (simp [*]; done)), H', ⟨Nat.le_refl _⟩, ⟨by repeat (first | (with_reducible first | exact HB.out | apply below_alloc | apply pw_below_drewN | apply below_drew1) | exact HB.out)⟩⟩
 case round =>
  clear H'
  obtain ⟨x8_1, rfl, HA, HK1, HB⟩ := hrel
  cases gk with
  | zero => exact absurd HA.out (by simp [fastjson_parseRawKey.l0])
  | succ k1 =>
   have H := HA.out
   clear HA
   simp only [fastjson_parseRawKey.l0] at H
   by_cases c2 : x8_1 < (a0.size : Int)
   ·rw [if_pos c2] at H
    have c2b0 : decide (x8_1 < (a0.size : Int)) = true := decide_eq_true c2
    clear c2
    by_cases c3 : 0 ≤ x8_1
    ·rw [if_pos c3] at H
     have c3b0 : decide (0 ≤ x8_1) = true := decide_eq_true c3
     clear c3
     by_cases c4 : x8_1 < (a0.size : Int)
     ·rw [if_pos c4] at H
      have c4b0 : decide (x8_1 < (a0.size : Int)) = true := decide_eq_true c4
      clear c4
      by_cases c6 : (bt a0 x8_1) = 34
      ·rw [if_pos c6] at H
       have c6b0 : ((bt a0 x8_1) == 34) = true := beq_iff_eq.mpr c6
       have c6b1 : ((bt a0 x8_1) != 34) = false := bne_eq_false_iff_eq.mpr c6
       clear c6
       have c7b0 := eq_true (of_decide_eq_true (by assumption) : 0 ≤ x8_1)
       by_cases c8 : x8_1 ≤ (a0.size : Int)
       ·rw [if_pos c8] at H
        have c8b0 := eq_true c8
        have c8b1 : decide (x8_1 ≤ (a0.size : Int)) = true := decide_eq_true c8
        clear c8
        obtain ⟨ji9, hji9⟩ : ∃ j_ : Int, (wrap64 (x8_1 + 1)) = j_ := ⟨_, rfl⟩
        replace H : (if 0 ≤ (ji9) then (if (ji9) ≤ (a0.size : Int) then (some (a0.extract 0 (x8_1 : Int).toNat, a0.extract ((ji9) : Int).toNat a0.size, none)) else (none)) else (none)) = some (r1, r2, r3) := by first | (rw [hji9] at H; exact H) | (simp only [hji9] at H ⊢; exact H)
        have hji9w : (IntKind.i64.wrap (x8_1 + 1)) = ji9 := (i64_w _).trans hji9
        by_cases c10 : 0 ≤ (ji9)
        ·rw [if_pos c10] at H
         have c10b0 := eq_true c10
         have c10b1 : decide (0 ≤ (ji9)) = true := decide_eq_true c10
         clear c10
         by_cases c11 : (ji9) ≤ (a0.size : Int)
         ·rw [if_pos c11] at H
          have c11b0 := eq_true c11
          have c11b1 : decide ((ji9) ≤ (a0.size : Int)) = true := decide_eq_true c11
          clear c11
          simp only [Option.some.injEq, Prod.mk.injEq] at H
          obtain ⟨rfl, rfl, rfl⟩ := H
          have p5 : 0 ≤ (x8_1 : Int) := of_decide_eq_true (by assumption)
          have q5 : x8_1 < (a0.size : Int) := of_decide_eq_true (by assumption)
          have hx5 := bt_at a0 x8_1
          replace p5 := eq_true p5
          replace q5 := eq_true q5
          try have hcs12 := fun W_ : World => run_slice_string_h (P := Tryd.prog) W_ 9 a0 Tryd.underlying9 .i64 x8_1 (of_decide_eq_true (by assumption)) (of_decide_eq_true (by assumption))
          try have hcs13 := fun W_ : World => run_slice_string_l (P := Tryd.prog) W_ 9 a0 Tryd.underlying9 .i64 (ji9) (of_decide_eq_true (by assumption)) (of_decide_eq_true (by assumption))
          go_wp2
          repeat (go_quiet (fail); try go_wp2)
          go_ret3
          first | exact ⟨0, .nilIface, by first | rfl | (simp [errW_none, errW_some] <;> rfl) | (simp only [← hji9]; first | rfl | (simp [errW_none, errW_some] <;> rfl)) | (simp [*, errW_none, errW_some] <;> rfl) | (simp [errW_none, errW_some] <;> exact ⟨rfl, rfl⟩) | (simp [*, errW_none, errW_some] <;> exact ⟨rfl, rfl⟩), by repeat (first | (with_reducible first | exact HB.out | apply below_alloc | apply pw_below_drewN | apply below_drew1) | exact HB.out)⟩ | exact ⟨⟨0, .nilIface, by first | rfl | (simp [errW_none, errW_some] <;> rfl) | (simp only [← hji9]; first | rfl | (simp [errW_none, errW_some] <;> rfl)) | (simp [*, errW_none, errW_some] <;> rfl) | (simp [errW_none, errW_some] <;> exact ⟨rfl, rfl⟩) | (simp [*, errW_none, errW_some] <;> exact ⟨rfl, rfl⟩)⟩, by repeat (first | (with_reducible first | exact HB.out | apply below_alloc | apply pw_below_drewN | apply below_drew1) | exact HB.out)⟩
         rw [if_neg c11] at H
         exact absurd H (by simp)
        rw [if_neg c10] at H
        exact absurd H (by simp)
       rw [if_neg c8] at H
       exact absurd H (by simp)
      rw [if_neg c6] at H
      have c6b0 : ((bt a0 x8_1) == 34) = false := beq_eq_false_iff_ne.mpr c6
      have c6b1 : ((bt a0 x8_1) != 34) = true := bne_iff_ne.mpr c6
      by_cases c15 : (bt a0 x8_1) = 92
      ·rw [if_pos c15] at H
       have c15b0 : ((bt a0 x8_1) == 92) = true := beq_iff_eq.mpr c15
       have c15b1 : ((bt a0 x8_1) != 92) = false := bne_eq_false_iff_eq.mpr c15
       clear c15
       replace H := Option.bind_eq_some_iff.mp H
       obtain ⟨⟨t177, t178, t179⟩, A160, H⟩ := H
       replace H : (some (t177, t178, t179)) = some (r1, r2, r3) := H
       have A16 := Aside0.mk A160
       clear A160
       simp only [Option.some.injEq, Prod.mk.injEq] at H
       obtain ⟨rfl, rfl, rfl⟩ := H
       have p5 : 0 ≤ (x8_1 : Int) := of_decide_eq_true (by assumption)
       have q5 : x8_1 < (a0.size : Int) := of_decide_eq_true (by assumption)
       have hx5 := bt_at a0 x8_1
       replace p5 := eq_true p5
       replace q5 := eq_true q5
       have p14 : 0 ≤ (x8_1 : Int) := of_decide_eq_true (by assumption)
       have q14 : x8_1 < (a0.size : Int) := of_decide_eq_true (by assumption)
       have hx14 := bt_at a0 x8_1
       replace p14 := eq_true p14
       replace q14 := eq_true q14
       go_wp2_with (first | (go_at_call 73; (with_reducible refine (fastjson_parseRawString.calls k1 a0 t177 t178 t179 _ A16.out).mono ?_); rintro e w17 ⟨et_A16_2, ep_A16_2, rfl, hb⟩; have n0_ := Aside0.mk (below_step (by repeat (first | (with_reducible first | exact HB.out | apply below_alloc | apply pw_below_drewN | apply below_drew1) | exact HB.out)) hb); clear HB; have HB := n0_; clear n0_; (try clear hb); (try clear hb2); (try clear hk); (try clear hi); (try simp only [errW_none, errW_some, errX_none, errX_some])))
       repeat (go_quiet (first | (go_at_call 73; (with_reducible refine (fastjson_parseRawString.calls k1 a0 t177 t178 t179 _ A16.out).mono ?_); rintro e w17 ⟨et_A16_2, ep_A16_2, rfl, hb⟩; have n0_ := Aside0.mk (below_step (by repeat (first | (with_reducible first | exact HB.out | apply below_alloc | apply pw_below_drewN | apply below_drew1) | exact HB.out)) hb); clear HB; have HB := n0_; clear n0_; (try clear hb); (try clear hb2); (try clear hk); (try clear hi); (try simp only [errW_none, errW_some, errX_none, errX_some]))); try go_wp2_with (first | (go_at_call 73; (with_reducible refine (fastjson_parseRawString.calls k1 a0 t177 t178 t179 _ A16.out).mono ?_); rintro e w17 ⟨et_A16_2, ep_A16_2, rfl, hb⟩; have n0_ := Aside0.mk (below_step (by repeat (first | (with_reducible first | exact HB.out | apply below_alloc | apply pw_below_drewN | apply below_drew1) | exact HB.out)) hb); clear HB; have HB := n0_; clear n0_; (try clear hb); (try clear hb2); (try clear hk); (try clear hi); (try simp only [errW_none, errW_some, errX_none, errX_some]))))
       go_ret3
       first | exact ⟨et_A16_2, ep_A16_2, by first | rfl | (simp [errW_none, errW_some] <;> rfl) | (simp [*, errW_none, errW_some] <;> rfl) | (simp [errW_none, errW_some] <;> exact ⟨rfl, rfl⟩) | (simp [*, errW_none, errW_some] <;> exact ⟨rfl, rfl⟩), by repeat (first | (with_reducible first | exact HB.out | apply below_alloc | apply pw_below_drewN | apply below_drew1) | exact HB.out)⟩ | exact ⟨⟨et_A16_2, ep_A16_2, by first | rfl | (simp [errW_none, errW_some] <;> rfl) | (simp [*, errW_none, errW_some] <;> rfl) | (simp [errW_none, errW_some] <;> exact ⟨rfl, rfl⟩) | (simp [*, errW_none, errW_some] <;> exact ⟨rfl, rfl⟩)⟩, by repeat (first | (with_reducible first | exact HB.out | apply below_alloc | apply pw_below_drewN | apply below_drew1) | exact HB.out)⟩
      rw [if_neg c15] at H
      have c15b0 : ((bt a0 x8_1) == 92) = false := beq_eq_false_iff_ne.mpr c15
      have c15b1 : ((bt a0 x8_1) != 92) = true := bne_iff_ne.mpr c15
      have H' := Aside0.mk H
      clear H
      have p5 : 0 ≤ (x8_1 : Int) := of_decide_eq_true (by assumption)
      have q5 : x8_1 < (a0.size : Int) := of_decide_eq_true (by assumption)
      have hx5 := bt_at a0 x8_1
      replace p5 := eq_true p5
      replace q5 := eq_true q5
      have p14 : 0 ≤ (x8_1 : Int) := of_decide_eq_true (by assumption)
      have q14 : x8_1 < (a0.size : Int) := of_decide_eq_true (by assumption)
      have hx14 := bt_at a0 x8_1
      replace p14 := eq_true p14
      replace q14 := eq_true q14
      go_wp2
      repeat (go_quiet (fail); try go_wp2)
      go_roundg k1
      case measure => have := HK1.out; omega
      case rel => exact ⟨(wrap64 (x8_1 + 1)), (by first | rfl | (simp; done) | (simp [*]; done)), H', ⟨by have := HK1.out; omega⟩, ⟨by repeat (first | (with_reducible first | exact HB.out | apply below_alloc | apply pw_below_drewN | apply below_drew1) | exact HB.out)⟩⟩
     rw [if_neg c4] at H
     exact absurd H (by simp)
    rw [if_neg c3] at H
    exact absurd H (by simp)
   rw [if_neg c2] at H
   have c2b0 : decide (x8_1 < (a0.size : Int)) = false := decide_eq_false c2
   clear c2
   replace H := Option.bind_eq_some_iff.mp H
   obtain ⟨t176, A180, H⟩ := H
   replace H : (some (a0, (⟨#[]⟩ : ByteArray), t176)) = some (r1, r2, r3) := H
   have A18 := Aside0.mk A180
   clear A180
   simp only [Option.some.injEq, Prod.mk.injEq] at H
   obtain ⟨rfl, rfl, rfl⟩ := H
   go_wp2_with (first | (go_at_call 41; (with_reducible refine (errors_New.calls (⟨#[109, 105, 115, 115, 105, 110, 103, 32, 99, 108, 111, 115, 105, 110, 103]⟩ : ByteArray) t176 _ A18.out).mono ?_); rintro e w19 ⟨et_A18_0, ep_A18_0, rfl, hb⟩; have n0_ := Aside0.mk (below_step (by repeat (first | (with_reducible first | exact HB.out | apply below_alloc | apply pw_below_drewN | apply below_drew1) | exact HB.out)) hb); clear HB; have HB := n0_; clear n0_; (try clear hb); (try clear hb2); (try clear hk); (try clear hi); (try simp only [errW_none, errW_some, errX_none, errX_some])))
   repeat (go_quiet (first | (go_at_call 41; (with_reducible refine (errors_New.calls (⟨#[109, 105, 115, 115, 105, 110, 103, 32, 99, 108, 111, 115, 105, 110, 103]⟩ : ByteArray) t176 _ A18.out).mono ?_); rintro e w19 ⟨et_A18_0, ep_A18_0, rfl, hb⟩; have n0_ := Aside0.mk (below_step (by repeat (first | (with_reducible first | exact HB.out | apply below_alloc | apply pw_below_drewN | apply below_drew1) | exact HB.out)) hb); clear HB; have HB := n0_; clear n0_; (try clear hb); (try clear hb2); (try clear hk); (try clear hi); (try simp only [errW_none, errW_some, errX_none, errX_some]))); try go_wp2_with (first | (go_at_call 41; (with_reducible refine (errors_New.calls (⟨#[109, 105, 115, 115, 105, 110, 103, 32, 99, 108, 111, 115, 105, 110, 103]⟩ : ByteArray) t176 _ A18.out).mono ?_); rintro e w19 ⟨et_A18_0, ep_A18_0, rfl, hb⟩; have n0_ := Aside0.mk (below_step (by repeat (first | (with_reducible first | exact HB.out | apply below_alloc | apply pw_below_drewN | apply below_drew1) | exact HB.out)) hb); clear HB; have HB := n0_; clear n0_; (try clear hb); (try clear hb2); (try clear hk); (try clear hi); (try simp only [errW_none, errW_some, errX_none, errX_some]))))
   go_ret3
   first | exact ⟨et_A18_0, ep_A18_0, by first | rfl | (simp [errW_none, errW_some] <;> rfl) | (simp [*, errW_none, errW_some] <;> rfl) | (simp [errW_none, errW_some] <;> exact ⟨rfl, rfl⟩) | (simp [*, errW_none, errW_some] <;> exact ⟨rfl, rfl⟩), by repeat (first | (with_reducible first | exact HB.out | apply below_alloc | apply pw_below_drewN | apply below_drew1) | exact HB.out)⟩ | exact ⟨⟨et_A18_0, ep_A18_0, by first | rfl | (simp [errW_none, errW_some] <;> rfl) | (simp [*, errW_none, errW_some] <;> rfl) | (simp [errW_none, errW_some] <;> exact ⟨rfl, rfl⟩) | (simp [*, errW_none, errW_some] <;> exact ⟨rfl, rfl⟩)⟩, by repeat (first | (with_reducible first | exact HB.out | apply below_alloc | apply pw_below_drewN | apply below_drew1) | exact HB.out)⟩
end Go.Proofs.YtnajijaachgipaaDoor.PT
end
section
namespace Go.Proofs.YtnajijaachgipaaDoor.H
open Go.RowKit Go.Proofs.YtnajijaachgipaaDoorW.PrintWords Go.Proofs.YtnajijaachgipaaDoorW.PrintLast Go.Proofs.YtnajijaachgipaaDoorW.PrintMore
set_option linter.unusedVariables false
/-! ### what has changed -/
/-- Between two worlds only the places of S have changed, of those that were there. -/
structure Ch (W W' : World) (S : Nat → Nat → Prop) : Prop where
 os : W'.os = W.os
 tape : W'.tape = W.tape
 output : W'.output = W.output
 size : W.heap.size ≤ W'.heap.size
 block : ∀ k, k < W.heap.size → (∀ o, ¬ S k o) → W'.heap[k]? = W.heap[k]?
 form : ∀ k, k < W.heap.size → ∀ cur ty, W.heap[k]? = some (.cells cur ty (0, 0)) → ∃ cur', W'.heap[k]? = some (.cells cur' ty (0, 0)) ∧ cur'.size = cur.size
 cell : ∀ k o, k < W.heap.size → ¬ S k o → W'.cell? ⟨k, o, none⟩ = W.cell? ⟨k, o, none⟩
section
variable {W W0 W1 W2 : World} {S S1 S2 : Nat → Nat → Prop}
theorem Ch.refl (W : World) (S : Nat → Nat → Prop) : Ch W W S := ⟨rfl, rfl, rfl, Nat.le_refl _, fun _ _ _ => rfl, fun _ _ cur ty h => ⟨cur, h, rfl⟩, fun _ _ _ _ => rfl⟩
theorem Ch.comp (h : Ch W0 W1 S) (h1 : Ch W1 W2 S1) (hS : ∀ k o, k < W0.heap.size → S1 k o → S k o) : Ch W0 W2 S := by
 refine ⟨h1.os.trans h.os, h1.tape.trans h.tape, h1.output.trans h.output, Nat.le_trans h.size h1.size, fun k hk hn => ?_, fun k hk cur ty hc => ?_, fun k o hk hn => ?_⟩
 ·exact (h1.block k (Nat.lt_of_lt_of_le hk h.size) (fun o ho => hn o (hS k o hk ho))).trans (h.block k hk hn)
 ·obtain ⟨c1, e1, s1⟩ := h.form k hk cur ty hc
  obtain ⟨c2, e2, s2⟩ := h1.form k (Nat.lt_of_lt_of_le hk h.size) c1 ty e1
  exact ⟨c2, e2, s2.trans s1⟩
 exact (h1.cell k o (Nat.lt_of_lt_of_le hk h.size) (fun ho => hn (hS k o hk ho))).trans (h.cell k o hk hn)
theorem Ch.mono (h : Ch W0 W1 S) (hS : ∀ k o, k < W0.heap.size → S k o → S1 k o) : Ch W0 W1 S1 :=
 ⟨h.os, h.tape, h.output, h.size, fun k hk hn => h.block k hk (fun o ho => hn o (hS k o hk ho)), h.form, fun k o hk hn => h.cell k o hk (fun ho => hn (hS k o hk ho))⟩
theorem Ch.of_below (h : Below W.heap.size W W1) (S : Nat → Nat → Prop) : Ch W W1 S :=
 ⟨h.os, h.tape, h.output, h.size, fun k hk _ => h.block k hk, fun k hk cur ty hc => ⟨cur, (h.block k hk).trans hc, rfl⟩, fun k o hk _ => World.cell?_of_block (h.block k hk)⟩
theorem Ch.below (h : Ch W W1 S) (hS : ∀ k o, k < W.heap.size → ¬ S k o) : Below W.heap.size W W1 := ⟨h.os, h.tape, h.output, h.size, fun k hk => h.block k hk (fun o => hS k o hk)⟩
theorem Ch.grown (h : Ch W0 W1 S) {row : Option Nat} (hg : W1.grownBy W2 row) (hr : ∀ r, row = some r → W0.heap.size ≤ r) : Ch W0 W2 S := by
 have hb : ∀ k, k < W0.heap.size → W2.heap[k]? = W1.heap[k]? := fun k hk => hg.block k (Nat.lt_of_lt_of_le hk h.size) (fun e => by have := hr k e.symm; omega)
 refine ⟨hg.os.trans h.os, hg.tape.trans h.tape, hg.output.trans h.output, Nat.le_trans h.size hg.size, fun k hk hn => (hb k hk).trans (h.block k hk hn), fun k hk cur ty hc => ?_, fun k o hk hn => (World.cell?_of_block (hb k hk)).trans (h.cell k o hk hn)⟩
 obtain ⟨c1, e1, s1⟩ := h.form k hk cur ty hc
 exact ⟨c1, (hb k hk).trans e1, s1⟩
theorem Ch.set {b o : Nat} {cur : Array Value} {ty : TypeId} (hc : W.heap[b]? = some (.cells cur ty (0, 0))) (v : Value) : Ch W (W.setCell ⟨b, o, none⟩ v) (fun k p => k = b ∧ p = o) := by
 rw [setCell_eq_setRow W b o cur ty (0, 0) v hc]
 have hh := setRow_heap W b cur (cur.setIfInBounds o v) ty (0, 0) hc
 refine ⟨rfl, rfl, rfl, by simp, fun k hk hn => ?_, fun k hk cur' ty' hc' => ?_, fun k p hk hn => ?_⟩
 ·exact setRow_other _ _ _ _ (fun e => hn o ⟨e, rfl⟩)
 ·by_cases e : k = b
  ·subst e
   rw [hc] at hc'
   injection hc' with hc'
   injection hc' with e1 e2 _
   subst e1 e2
   exact ⟨_, hh, by simp⟩
  exact ⟨cur', (setRow_other _ _ _ _ e).trans hc', rfl⟩
 by_cases e : k = b
 ·subst e
  have hp : o ≠ p := fun e => hn ⟨rfl, e.symm⟩
  rw [cell_of_row _ k p _ ty (0, 0) hh, cell_of_row _ k p _ ty (0, 0) hc, Array.getElem?_setIfInBounds_ne hp]
 exact World.cell?_of_block (setRow_other _ _ _ _ e)
theorem Ch.lt (h : Ch W0 W1 S) {k : Nat} (hk : k < W0.heap.size) : k < W1.heap.size := Nat.lt_of_lt_of_le hk h.size
end
/-! ### the cache -/
def zc : Array Value := #[.slice none 0 0, .bool false, .slice none 0 0, .string ByteArray.empty, .int .i64 0]
theorem zeroCells_succ (z : Array Value) (n : Nat) : Builtin.zeroCells z (n + 1) = z ++ Builtin.zeroCells z n := by
 apply Array.ext
 ·simp only [Builtin.zeroCells, Array.size_map, Array.size_range, Array.size_append, Nat.succ_mul]; omega
 intro i h1 h2
 simp only [Builtin.zeroCells, Array.size_map, Array.size_range] at h1
 have hz : 0 < z.size := by
  rcases Nat.eq_zero_or_pos z.size with e | e
  ·rw [e] at h1; simp at h1
  exact e
 simp only [Builtin.zeroCells, Array.getElem_map, Array.getElem_range, Array.getElem_append]
 split
 ·rename_i h
  rw [Nat.mod_eq_of_lt h, getElem!_pos z i h]
 rename_i h
 rw [Nat.mod_eq_sub_mod (by omega)]
/-- The cell of a cache. -/
def cv : Option (Nat × Nat) → Nat → Value
 | none, _ => .slice none 0 0
 | some x, n => .slice (some ⟨x.1, 0, none⟩) n x.2
/-- A slice at ⟨g, co⟩ has n elements; they lie in the block that Bo names, and what is behind them there is new. -/
structure CS (Z : Array Value) (E : TypeId) (W : World) (g co : Nat) (Bo : Option (Nat × Nat)) (n : Nat) : Prop where
 cell : ∃ arr ty, W.heap[g]? = some (.cells arr ty (0, 0)) ∧ arr[co]? = some (cv Bo n)
 row : (Bo = none ∧ n = 0) ∨ ∃ (B c : Nat) (xs : List Value), Bo = some (B, c) ∧ B ≠ g ∧ n ≤ c ∧ c ≤ maxLen ∧ xs.length = n * Z.size ∧ W.heap[B]? = some (.cells (xs.toArray ++ Builtin.zeroCells Z (c - n)) E (0, 0))
/-- The places that a step with the cache may change. -/
def SK (g co : Nat) (Bo : Option (Nat × Nat)) (n : Nat) (b o : Nat) : Prop := (b = g ∧ o = co) ∨ ∃ c, Bo = some (b, c) ∧ n ≤ o
/-- The places that no step with the cache changes. -/
def Old (W : World) (g : Nat) (Bo : Option (Nat × Nat)) (n : Nat) (b o : Nat) : Prop := b < W.heap.size ∧ b ≠ g ∧ ∀ c, Bo = some (b, c) → o < n
def Lk (W : World) (Bo : Option (Nat × Nat)) (n : Nat) (B1 : Option (Nat × Nat)) (n1 : Nat) : Prop := n ≤ n1 ∧ ∀ B c, B1 = some (B, c) → (∃ c', Bo = some (B, c')) ∨ W.heap.size ≤ B
section
variable {W W0 W1 W2 : World} {g co n n1 n2 b o : Nat} {Bo B1 B2 : Option (Nat × Nat)} {S : Nat → Nat → Prop}
theorem Old.not (h : Old W g Bo n b o) : ¬ SK g co Bo n b o := by
 rintro (⟨e, _⟩ | ⟨c, e, hle⟩)
 ·exact h.2.1 e
 have := h.2.2 c e; omega
theorem not_old (hb : b < W.heap.size) (hg : b ≠ g) (h : ¬ Old W g Bo n b o) : ∃ c, Bo = some (b, c) ∧ n ≤ o := by
 by_cases hx : ∃ c, Bo = some (b, c)
 ·obtain ⟨c, e⟩ := hx
  refine ⟨c, e, ?_⟩
  rcases Nat.lt_or_ge o n with q | q
  ·exact absurd ⟨hb, hg, fun _ _ => q⟩ h
  exact q
 exact absurd ⟨hb, hg, fun c e => absurd ⟨c, e⟩ hx⟩ h
theorem Lk.refl (W : World) (Bo : Option (Nat × Nat)) (n : Nat) : Lk W Bo n Bo n := ⟨Nat.le_refl _, fun B c e => .inl ⟨c, e⟩⟩
theorem Lk.trans (h : Lk W Bo n B1 n1) (h1 : Lk W1 B1 n1 B2 n2) (hs : W.heap.size ≤ W1.heap.size) : Lk W Bo n B2 n2 := by
 refine ⟨Nat.le_trans h.1 h1.1, fun B c e => ?_⟩
 rcases h1.2 B c e with ⟨c', e'⟩ | hle
 ·exact h.2 B c' e'
 exact .inr (Nat.le_trans hs hle)
/-- What may change later was new or might change before. -/
theorem Lk.sub (h : Lk W Bo n B1 n1) : ∀ k p, k < W.heap.size → SK g co B1 n1 k p → SK g co Bo n k p := by
 rintro k p hk (e | ⟨c, e, hle⟩)
 ·exact .inl e
 rcases h.2 k c e with ⟨c', e'⟩ | hle'
 ·exact .inr ⟨c', e', by have := h.1; omega⟩
 omega
theorem Old.step (h : Old W g Bo n b o) (l : Lk W Bo n B1 n1) (hs : W.heap.size ≤ W1.heap.size) : Old W1 g B1 n1 b o := by
 refine ⟨Nat.lt_of_lt_of_le h.1 hs, h.2.1, fun c e => ?_⟩
 rcases l.2 b c e with ⟨c', e'⟩ | hle
 ·have := h.2.2 c' e'; have := l.1; omega
 have := h.1; omega
theorem Old.keep (h : Old W g Bo n b o) (hc : Ch W W1 (SK g co Bo n)) : W1.cell? ⟨b, o, none⟩ = W.cell? ⟨b, o, none⟩ := hc.cell b o h.1 h.not
variable {Z : Array Value} {E : TypeId}
theorem CS.ne (h : CS Z E W g co Bo n) {B c : Nat} (e : Bo = some (B, c)) : B ≠ g := by
 rcases h.row with ⟨e', _⟩ | ⟨B', c', xs, e', hne, _⟩
 ·rw [e'] at e; cases e
 rw [e'] at e
 obtain ⟨rfl, rfl⟩ := Prod.mk.inj (Option.some.inj e)
 exact hne
theorem CS.glt (h : CS Z E W g co Bo n) : g < W.heap.size := by
 obtain ⟨arr, ty, e, _⟩ := h.cell
 exact (Array.getElem?_eq_some_iff.1 e).1
theorem CS.blt (h : CS Z E W g co Bo n) {B c : Nat} (e : Bo = some (B, c)) : B < W.heap.size := by
 rcases h.row with ⟨e', _⟩ | ⟨B', c', xs, e', _, _, _, _, hh⟩
 ·rw [e'] at e; cases e
 rw [e'] at e
 obtain ⟨rfl, rfl⟩ := Prod.mk.inj (Option.some.inj e)
 exact (Array.getElem?_eq_some_iff.1 hh).1
theorem CS.at_ (h : CS Z E W g co Bo n) : W.cell? ⟨g, co, none⟩ = some (cv Bo n) := by
 obtain ⟨arr, ty, e, hc⟩ := h.cell
 rw [cell_of_row _ g co arr ty (0, 0) e, hc]
theorem CS.soft (h : CS Z E W g co Bo n) : W.frozen? ⟨g, co, none⟩ = false := by
 obtain ⟨arr, ty, e, hc⟩ := h.cell
 simp [World.frozen?, e]
/-- Changes elsewhere. -/
theorem CS.ch (h : CS Z E W g co Bo n) (hc : Ch W W1 S) (hg : ¬ S g co) (hB : ∀ B c, Bo = some (B, c) → ∀ p, n * Z.size ≤ p → ¬ S B p) : CS Z E W1 g co Bo n := by
 have hglt := h.glt
 obtain ⟨arr, ty, e, hv⟩ := h.cell
 obtain ⟨arr', e', hs⟩ := hc.form g hglt arr ty e
 have hcell := hc.cell g co hglt hg
 rw [cell_of_row _ g co _ ty (0, 0) e', cell_of_row _ g co _ ty (0, 0) e] at hcell
 refine ⟨⟨arr', ty, e', hcell.trans hv⟩, ?_⟩
 rcases h.row with hn | ⟨B, c, xs, eB, hne, hnc, hcm, hl, hh⟩
 ·exact .inl hn
 have hBlt := h.blt eB
 obtain ⟨cur', e2, hs2⟩ := hc.form B hBlt _ _ hh
 have hxa : xs.toArray.size = n * Z.size := by rw [List.size_toArray, hl]
 refine .inr ⟨B, c, cur'.toList.take (n * Z.size), eB, hne, hnc, hcm, ?_, ?_⟩
 ·rw [List.length_take, Array.length_toList, hs2, Array.size_append, hxa]; omega
 rw [e2]
 congr 2
 apply Array.ext'
 rw [Array.toList_append]
 rw [← List.take_append_drop (n * Z.size) cur'.toList]
 congr 1
 ·simp
 apply List.ext_getElem?
 intro i
 have hq := hc.cell B (n * Z.size + i) hBlt (hB B c eB _ (by omega))
 rw [cell_of_row _ B _ _ _ (0, 0) e2, cell_of_row _ B _ _ _ (0, 0) hh, Array.getElem?_append_right (by rw [hxa]; omega), hxa, show n * Z.size + i - n * Z.size = i by omega] at hq
 rw [List.getElem?_drop, Array.getElem?_toList, Array.getElem?_toList]
 simpa using hq
end
/-! ### trees -/
inductive FT where
 | mk (k : Int) (s : ByteArray) (ks : List ByteArray) (kids : List FT)
instance : Inhabited FT := ⟨.mk 0 ByteArray.empty [] []⟩
/-- A block of cells that may be written. -/
def Soft (W : World) (b : Nat) : Prop := ∃ cur ty, W.heap[b]? = some (.cells cur ty (0, 0))
theorem Soft.ok {W : World} {b o : Nat} (h : Soft W b) : W.frozen? ⟨b, o, none⟩ = false ∧ b < W.heap.size := by
 obtain ⟨cur, ty, e⟩ := h
 exact ⟨by simp [World.frozen?, e], (Array.getElem?_eq_some_iff.1 e).1⟩
theorem Soft.of {W W1 : World} {b : Nat} (h : Soft W b) (e : W1.heap[b]? = W.heap[b]?) : Soft W1 b := by
 obtain ⟨cur, ty, h⟩ := h
 exact ⟨cur, ty, e.trans h⟩
theorem Soft.ch {W W1 : World} {S : Nat → Nat → Prop} {b : Nat} (h : Soft W b) (k : Ch W W1 S) : Soft W1 b := by
 obtain ⟨cur, ty, e⟩ := h
 obtain ⟨c, e2, _⟩ := k.form b (Array.getElem?_eq_some_iff.1 e).1 cur ty e
 exact ⟨c, ty, e2⟩
/-- A Value lies at ⟨b, o⟩, and what hangs on it; all that is read lies in P; what hangs on it lies apart. -/
inductive Lies (W : World) : (Nat → Nat → Prop) → Nat → Nat → FT → Prop
 | leaf {P : Nat → Nat → Prop} {b o : Nat} {k : Int} {s : ByteArray} (h1 : k ≠ 1) (h2 : k ≠ 2) (c3 : W.cell? ⟨b, o + 3, none⟩ = some (.string s)) (p3 : P b (o + 3)) (c4 : W.cell? ⟨b, o + 4, none⟩ = some (.int .i64 k)) (p4 : P b (o + 4)) (sf : Soft W b) : Lies W P b o (.mk k s [] [])
 | arr {P : Nat → Nat → Prop} {b o ad : Nat} {v : Value} {ts : List FT} {ps : List (Nat × Nat)} (c4 : W.cell? ⟨b, o + 4, none⟩ = some (.int .i64 2)) (p4 : P b (o + 4)) (c2 : W.cell? ⟨b, o + 2, none⟩ = some v) (p2 : P b (o + 2))
   (hv : (v = .slice none 0 0 ∧ ts = []) ∨ ∃ c, v = .slice (some ⟨ad, 0, none⟩) ts.length c) (hl : ps.length = ts.length)
   (he : ∀ (j : Nat) (p : Nat × Nat), ps[j]? = some p → W.cell? ⟨ad, j, none⟩ = some (.pointer (some ⟨p.1, p.2, none⟩)) ∧ P ad j)
   (Q : Nat → Nat → Nat → Prop) (hQ : ∀ j b' o', Q j b' o' → P b' o' ∧ ¬ (b' = b ∧ o ≤ o' ∧ o' < o + 5) ∧ (ts ≠ [] → b' ≠ ad)) (hd : ∀ i j b' o', i < j → Q i b' o' → ¬ Q j b' o')
   (hk : ∀ (j : Nat) (p : Nat × Nat) (t : FT), ps[j]? = some p → ts[j]? = some t → Lies W (Q j) p.1 p.2 t) : Lies W P b o (.mk 2 ByteArray.empty [] ts)
 | obj {P : Nat → Nat → Prop} {b o ad : Nat} {v : Value} {ks : List ByteArray} {ts : List FT} {ps : List (Nat × Nat)} (c4 : W.cell? ⟨b, o + 4, none⟩ = some (.int .i64 1)) (p4 : P b (o + 4)) (c1 : W.cell? ⟨b, o + 1, none⟩ = some (.bool false)) (p1 : P b (o + 1)) (c0 : W.cell? ⟨b, o, none⟩ = some v) (p0 : P b o) (sf : Soft W b)
   (hv : (v = .slice none 0 0 ∧ ts = []) ∨ ∃ c, v = .slice (some ⟨ad, 0, none⟩) ts.length c) (hl : ps.length = ts.length) (hn : ks.length = ts.length) (hne : ts ≠ [] → ad ≠ b ∧ Soft W ad)
   (hs : ∀ (j : Nat) (k : ByteArray), ks[j]? = some k → W.cell? ⟨ad, j * 2, none⟩ = some (.string k) ∧ P ad (j * 2))
   (he : ∀ (j : Nat) (p : Nat × Nat), ps[j]? = some p → W.cell? ⟨ad, j * 2 + 1, none⟩ = some (.pointer (some ⟨p.1, p.2, none⟩)) ∧ P ad (j * 2 + 1))
   (Q : Nat → Nat → Nat → Prop) (hQ : ∀ j b' o', Q j b' o' → P b' o' ∧ ¬ (b' = b ∧ o ≤ o' ∧ o' < o + 5) ∧ (ts ≠ [] → b' ≠ ad)) (hd : ∀ i j b' o', i < j → Q i b' o' → ¬ Q j b' o')
   (hk : ∀ (j : Nat) (p : Nat × Nat) (t : FT), ps[j]? = some p → ts[j]? = some t → Lies W (Q j) p.1 p.2 t) : Lies W P b o (.mk 1 ByteArray.empty ks ts)
theorem Lies.frame {W W1 : World} {P Q : Nat → Nat → Prop} (hP : ∀ b o, P b o → Q b o) (hc : ∀ b o, P b o → W1.cell? ⟨b, o, none⟩ = W.cell? ⟨b, o, none⟩) (hf : ∀ b o, P b o → Soft W b → Soft W1 b) {b o : Nat} {t : FT} (h : Lies W P b o t) : Lies W1 Q b o t := by
 induction h generalizing Q with
 | leaf h1 h2 c3 p3 c4 p4 sf => exact .leaf h1 h2 ((hc _ _ p3).trans c3) (hP _ _ p3) ((hc _ _ p4).trans c4) (hP _ _ p4) (hf _ _ p4 sf)
 | arr c4 p4 c2 p2 hv hl he R hR hd _ ih => exact .arr ((hc _ _ p4).trans c4) (hP _ _ p4) ((hc _ _ p2).trans c2) (hP _ _ p2) hv hl (fun j p hp => ⟨(hc _ _ (he j p hp).2).trans (he j p hp).1, hP _ _ (he j p hp).2⟩) R (fun j b' o' hr => ⟨hP _ _ (hR j b' o' hr).1, (hR j b' o' hr).2⟩) hd (fun j p t hp ht => ih j p t hp ht (fun _ _ h => h) (fun b o h => hc b o (hR j b o h).1) (fun b o h => hf b o (hR j b o h).1))
 | @obj P b o ad v ks ts ps c4 p4 c1 p1 c0 p0 sf hv hl hn hne hs he R hR hd _ ih =>
  refine .obj ((hc _ _ p4).trans c4) (hP _ _ p4) ((hc _ _ p1).trans c1) (hP _ _ p1) ((hc _ _ p0).trans c0) (hP _ _ p0) (hf _ _ p4 sf) hv hl hn (fun h => ⟨(hne h).1, ?_⟩) (fun j k hk => ⟨(hc _ _ (hs j k hk).2).trans (hs j k hk).1, hP _ _ (hs j k hk).2⟩) (fun j p hp => ⟨(hc _ _ (he j p hp).2).trans (he j p hp).1, hP _ _ (he j p hp).2⟩) R (fun j b' o' hr => ⟨hP _ _ (hR j b' o' hr).1, (hR j b' o' hr).2⟩) hd (fun j p t hp ht => ih j p t hp ht (fun _ _ h => h) (fun b o h => hc b o (hR j b o h).1) (fun b o h => hf b o (hR j b o h).1))
  have hps : 0 < ps.length := by
   rw [hl]
   exact List.length_pos_iff.2 h
  exact hf ad _ (he 0 ps[0] (List.getElem?_eq_getElem hps)).2 (hne h).2
/-- The trees of several places lie apart in P. -/
def Kids (W : World) (P : Nat → Nat → Prop) (ps : List (Nat × Nat)) (ts : List FT) : Prop := ∃ Q : Nat → Nat → Nat → Prop, (∀ j b o, Q j b o → P b o) ∧ (∀ i j b o, i < j → Q i b o → ¬ Q j b o) ∧ ∀ (j : Nat) (p : Nat × Nat) (t : FT), ps[j]? = some p → ts[j]? = some t → Lies W (Q j) p.1 p.2 t
/-- The same, and one tree more. -/
def Pend (W : World) (P : Nat → Nat → Prop) (ps : List (Nat × Nat)) (ts : List FT) (b o : Nat) (t : FT) : Prop := ∃ (Q : Nat → Nat → Nat → Prop) (R : Nat → Nat → Prop), (∀ j b o, Q j b o → P b o) ∧ (∀ i j b o, i < j → Q i b o → ¬ Q j b o) ∧ (∀ (j : Nat) (p : Nat × Nat) (t : FT), ps[j]? = some p → ts[j]? = some t → Lies W (Q j) p.1 p.2 t) ∧ (∀ b o, R b o → P b o) ∧ (∀ j b o, Q j b o → ¬ R b o) ∧ Lies W R b o t
section
variable {W W1 : World} {P P1 R : Nat → Nat → Prop} {ps : List (Nat × Nat)} {ts : List FT} {b o : Nat} {t : FT}
theorem Kids.nil (W : World) (P : Nat → Nat → Prop) : Kids W P [] [] := ⟨fun _ _ _ => False, fun _ _ _ h => h.elim, fun _ _ _ _ _ h => h.elim, fun j p t hp _ => by simp at hp⟩
theorem Kids.frame (h : Kids W P ps ts) (hP : ∀ b o, P b o → P1 b o) (hc : ∀ b o, P b o → W1.cell? ⟨b, o, none⟩ = W.cell? ⟨b, o, none⟩) (hf : ∀ b o, P b o → Soft W b → Soft W1 b) : Kids W1 P1 ps ts := by
 obtain ⟨Q, h1, h2, h3⟩ := h
 exact ⟨Q, fun j b o q => hP _ _ (h1 j b o q), h2, fun j p t hp ht => (h3 j p t hp ht).frame (fun _ _ h => h) (fun b o q => hc b o (h1 j b o q)) (fun b o q => hf b o (h1 j b o q))⟩
theorem Pend.frame (h : Pend W P ps ts b o t) (hP : ∀ b o, P b o → P1 b o) (hc : ∀ b o, P b o → W1.cell? ⟨b, o, none⟩ = W.cell? ⟨b, o, none⟩) (hf : ∀ b o, P b o → Soft W b → Soft W1 b) : Pend W1 P1 ps ts b o t := by
 obtain ⟨Q, R, h1, h2, h3, h4, h5, h6⟩ := h
 exact ⟨Q, R, fun j b o q => hP _ _ (h1 j b o q), h2, fun j p t hp ht => (h3 j p t hp ht).frame (fun _ _ h => h) (fun b o q => hc b o (h1 j b o q)) (fun b o q => hf b o (h1 j b o q)), fun b o q => hP _ _ (h4 b o q), h5, h6.frame (fun _ _ h => h) (fun b o q => hc b o (h4 b o q)) (fun b o q => hf b o (h4 b o q))⟩
theorem Kids.pend (h : Kids W P ps ts) (hP : ∀ b o, P b o → P1 b o) (hc : ∀ b o, P b o → W1.cell? ⟨b, o, none⟩ = W.cell? ⟨b, o, none⟩) (hf : ∀ b o, P b o → Soft W b → Soft W1 b) (hR : ∀ b o, R b o → P1 b o) (hd : ∀ b o, P b o → ¬ R b o) (hl : Lies W1 R b o t) : Pend W1 P1 ps ts b o t := by
 obtain ⟨Q, h1, h2, h3⟩ := h.frame hP hc hf
 obtain ⟨Q', g1, g2, g3⟩ := h
 exact ⟨Q', R, fun j b o q => hP _ _ (g1 j b o q), g2, fun j p t hp ht => (g3 j p t hp ht).frame (fun _ _ h => h) (fun b o q => hc b o (g1 j b o q)) (fun b o q => hf b o (g1 j b o q)), hR, fun j b o q => hd b o (g1 j b o q), hl⟩
theorem Pend.kids (h : Pend W P ps ts b o t) : Kids W P ps ts := by
 obtain ⟨Q, R, h1, h2, h3, _⟩ := h
 exact ⟨Q, h1, h2, h3⟩
theorem Pend.push (h : Pend W P ps ts b o t) (hl : ps.length = ts.length) : Kids W P (ps ++ [(b, o)]) (ts ++ [t]) := by
 obtain ⟨Q, R, h1, h2, h3, h4, h5, h6⟩ := h
 refine ⟨fun j b o => (j < ts.length ∧ Q j b o) ∨ (j = ts.length ∧ R b o), ?_, ?_, ?_⟩
 ·rintro j b o (⟨_, q⟩ | ⟨_, q⟩)
  ·exact h1 j b o q
  exact h4 b o q
 ·rintro i j b o hij (⟨hi, q⟩ | ⟨hi, q⟩) (⟨hj, r⟩ | ⟨hj, r⟩)
  ·exact h2 i j b o hij q r
  ·exact h5 i b o q r
  ·omega
  omega
 intro j p t' hp ht
 by_cases hj : j < ts.length
 ·rw [List.getElem?_append_left (by rw [hl]; exact hj)] at hp
  rw [List.getElem?_append_left hj] at ht
  exact (h3 j p t' hp ht).frame (fun _ _ q => .inl ⟨hj, q⟩) (fun _ _ _ => rfl) (fun _ _ _ s => s)
 rw [List.getElem?_append_right (by omega)] at hp
 rw [List.getElem?_append_right (by omega)] at ht
 have e1 : j - ts.length = 0 := by
  rcases Nat.eq_zero_or_pos (j - ts.length) with q | q
  ·exact q
  rw [List.getElem?_eq_none (by simp; omega)] at ht; cases ht
 rw [hl, e1] at hp
 rw [e1] at ht
 obtain rfl := Option.some.inj hp
 obtain rfl := Option.some.inj ht
 exact h6.frame (fun _ _ q => .inr ⟨by omega, q⟩) (fun _ _ _ => rfl) (fun _ _ _ s => s)
end
end Go.Proofs.YtnajijaachgipaaDoor.H
end
section
namespace Go.Proofs.YtnajijaachgipaaDoor.H
open Go.RowKit Go.Proofs.YtnajijaachgipaaDoorW.PrintWords Go.Proofs.YtnajijaachgipaaDoorW.PrintLast Go.Proofs.YtnajijaachgipaaDoorW.PrintMore
set_option linter.unusedVariables false
/-- What a new Value of the cache is. -/
structure NewV (Z : Array Value) (E : TypeId) (W W' : World) (g co : Nat) (Bo : Option (Nat × Nat)) (n B c : Nat) : Prop where
 st : CS Z E W' g co (some (B, c)) (n + 1)
 ch : Ch W W' (SK g co Bo (n * Z.size))
 lk : Lk W Bo (n * Z.size) (some (B, c)) ((n + 1) * Z.size)
 zero : ∀ j u, Z[j]? = some u → W'.cell? ⟨B, n * Z.size + j, none⟩ = some u
 copy : ∀ B0 c0, Bo = some (B0, c0) → ∀ j, j < n * Z.size → W'.cell? ⟨B, j, none⟩ = W.cell? ⟨B0, j, none⟩
theorem newV {Z : Array Value} {E : TypeId} {W W1 : World} {g co n N c : Nat} {Bo : Option (Nat × Nat)} {xs : List Value} (h : CS Z E W g co Bo n) (hb : Below W.heap.size W W1) (hN : Bo = some (N, c) ∨ W.heap.size ≤ N) (hx : xs.length = n * Z.size)
  (hcp : ∀ B0 c0, Bo = some (B0, c0) → ∀ j, j < n * Z.size → W.cell? ⟨B0, j, none⟩ = xs[j]?)
  (hh : W1.heap[N]? = some (.cells ((xs ++ Z.toList).toArray ++ Builtin.zeroCells Z (c - (n + 1))) E (0, 0))) (hc : n + 1 ≤ c) (hm : c ≤ maxLen) (m2 : Nat) :
  NewV Z E W ((W1.setCell ⟨g, co, none⟩ (.slice (some ⟨N, 0, none⟩) (n + 1) c)).drewN m2) g co Bo n N c := by
 have hg := h.glt
 have hNg : N ≠ g := by
  rcases hN with e | e
  ·exact h.ne e
  omega
 obtain ⟨arr, ty, e, hv⟩ := h.cell
 have e1 := (hb.block g hg).trans e
 have c1 : Ch W W1 (fun _ _ => False) := Ch.of_below hb _
 have c2 := Ch.set (o := co) e1 (.slice (some ⟨N, 0, none⟩) (n + 1) c)
 have c3 : Ch (W1.setCell ⟨g, co, none⟩ (.slice (some ⟨N, 0, none⟩) (n + 1) c)) ((W1.setCell ⟨g, co, none⟩ (.slice (some ⟨N, 0, none⟩) (n + 1) c)).drewN m2) (fun _ _ => False) := Ch.of_below (pw_below_drewN (Below.refl _ _) m2) _
 have hN2 : (W1.setCell ⟨g, co, none⟩ (.slice (some ⟨N, 0, none⟩) (n + 1) c)).heap[N]? = W1.heap[N]? := by
  rw [setCell_eq_setRow W1 g co arr ty (0, 0) _ e1]
  exact setRow_other _ _ _ _ hNg
 have hco : co < arr.size := (Array.getElem?_eq_some_iff.1 hv).1
 have hsu : (n + 1) * Z.size = n * Z.size + Z.size := Nat.succ_mul n Z.size
 have hxa : (xs ++ Z.toList).length = (n + 1) * Z.size := by rw [List.length_append, hx, Array.length_toList, hsu]
 have st0 : CS Z E (W1.setCell ⟨g, co, none⟩ (.slice (some ⟨N, 0, none⟩) (n + 1) c)) g co (some (N, c)) (n + 1) := by
  refine ⟨⟨arr.setIfInBounds co (.slice (some ⟨N, 0, none⟩) (n + 1) c), ty, ?_, ?_⟩, .inr ⟨N, c, xs ++ Z.toList, rfl, hNg, hc, hm, hxa, hN2.trans hh⟩⟩
  ·rw [setCell_eq_setRow W1 g co arr ty (0, 0) _ e1]
   exact setRow_heap W1 g arr _ ty (0, 0) e1
  simp [hco, cv]
 have hz : ((W1.setCell ⟨g, co, none⟩ (.slice (some ⟨N, 0, none⟩) (n + 1) c)).drewN m2).heap[N]? = _ := (pw_below_drewN (Below.refl (W1.setCell ⟨g, co, none⟩ (.slice (some ⟨N, 0, none⟩) (n + 1) c)).heap.size _) m2).block N (Array.getElem?_eq_some_iff.1 (hN2.trans hh)).1
 have hat : ∀ p, p < (n + 1) * Z.size → ((W1.setCell ⟨g, co, none⟩ (.slice (some ⟨N, 0, none⟩) (n + 1) c)).drewN m2).cell? ⟨N, p, none⟩ = (xs ++ Z.toList)[p]? := fun p hp => by
  rw [cell_of_row _ N _ _ _ (0, 0) (hz.trans (hN2.trans hh)), Array.getElem?_append_left (show p < (xs ++ Z.toList).toArray.size from by rw [List.size_toArray, hxa]; exact hp), List.getElem?_toArray]
 refine ⟨st0.ch c3 (fun h => h) (fun _ _ _ _ _ h => h), ?_, ⟨by omega, fun B' c' e' => ?_⟩, fun j u hu => ?_, fun B0 c0 e0 j hj => ?_⟩
 ·exact (((c1.mono (S1 := SK g co Bo (n * Z.size)) (fun _ _ _ h => h.elim)).comp c2 (fun k p _ h => .inl h)).comp c3 (fun _ _ _ h => h.elim))
 ·obtain ⟨rfl, rfl⟩ := Prod.mk.inj (Option.some.inj e')
  rcases hN with q | q
  ·exact .inl ⟨_, q⟩
  exact .inr q
 ·have hj : j < Z.size := (Array.getElem?_eq_some_iff.1 hu).1
  rw [hat _ (by omega), List.getElem?_append_right (by omega), hx, show n * Z.size + j - n * Z.size = j by omega, Array.getElem?_toList]
  exact hu
 rw [hat _ (by omega), List.getElem?_append_left (by omega), hcp B0 c0 e0 j hj]
/-- The old cells, as a list. -/
theorem CS.cells {Z : Array Value} {E : TypeId} {W : World} {g co n B c : Nat} {xs : List Value} (hx : xs.length = n * Z.size) (hh : W.heap[B]? = some (.cells (xs.toArray ++ Builtin.zeroCells Z (c - n)) E (0, 0))) (j : Nat) (hj : j < n * Z.size) : W.cell? ⟨B, j, none⟩ = xs[j]? := by
 rw [cell_of_row W B j _ E (0, 0) hh, Array.getElem?_append_left (show j < xs.toArray.size from by rw [List.size_toArray, hx]; exact hj), List.getElem?_toArray]
/-- The cells of a new member. -/
def zk : Array Value := #[.string ByteArray.empty, .pointer none]
set_option maxHeartbeats 1000000 in
set_option maxRecDepth 100000 in
theorem getV_room (g co n B c : Nat) (W : World) (h : CS zc 86 W g co (some (B, c)) n) (hn : n < c) :
  Calls Tryd.prog 39 #[.pointer (some ⟨g, co, none⟩)] W fun e W' => e = .returned (.pointer (some ⟨B, n * 5, none⟩)) ∧ NewV zc 86 W W' g co (some (B, c)) n B c := by
 have hc := h.at_
 have hf := h.soft
 simp only [cv] at hc
 have H := Aside0.mk h
 clear h
 have hle : ((n : Int) + 1).toNat = n + 1 := by omega
 have hcm : c ≤ maxLen := by
  rcases H.out.row with ⟨e, _⟩ | ⟨B', c', xs, e, _, _, hm, _⟩
  ·cases e
  obtain ⟨rfl, rfl⟩ := Prod.mk.inj (Option.some.inj e)
  exact hm
 have hw : IntKind.i64.wrap ((n : Int) + 1) = n + 1 := by rw [IntKind.wrap_i64]; simp only [maxLen] at hcm; omega
 have q0 : (0 : Int) ≤ n := by omega
 have q1 : (n : Int) < (n : Int) + 1 := by omega
 have hw2 : IntKind.i64.wrap (n : Int) = n := by rw [IntKind.wrap_i64]; simp only [maxLen] at hcm; omega
 go_enter Tryd.func39, Tryd.ntmps39
 go_wp2
 go_quiet (fail)
 go_wp2
 go_region
 go_wp2
 go_quiet (fail)
 go_wp2
 go_ret
 refine ⟨rfl, ?_⟩
 rcases H.out.row with ⟨e, _⟩ | ⟨B', c', xs, e, hne, hnc, hm, hl, hh⟩
 ·cases e
 obtain ⟨rfl, rfl⟩ := Prod.mk.inj (Option.some.inj e)
 refine newV (xs := xs) H.out (pw_below_drewN (Below.refl _ _) _) (.inl rfl) hl (fun B0 c0 e0 j hj => ?_) ?_ hn hm _
 ·obtain ⟨rfl, rfl⟩ := Prod.mk.inj (Option.some.inj e0)
  exact CS.cells (g := g) (co := co) hl hh j hj
 refine ((pw_below_drewN (Below.refl W.heap.size W) _).block _ (Array.getElem?_eq_some_iff.1 hh).1).trans ?_
 rw [hh, show c - n = (c - (n + 1)) + 1 by omega, zeroCells_succ]
 congr 2
 apply Array.ext'
 simp
section
variable {P : Program} {ops : Array Oper} {rest : List Oper} {o : Oper} {a : Act} {Q : Exit → Act → World → Prop}
/-- One zero element is appended to a row that is full: a new row, zeros behind. -/
theorem wpList_push {W : World} (hgd : o.guard = none) (s x : Operand) (t e : TypeId) (ho : o.op = .call { callee := .builtin .append, args := #[s, x], argTypes := #[t, t] })
  (ht : P.underlying t = some (.slice e)) {i : TypeInfo} {z : Value} {Z : Array Value} {bytes : Nat} (hi : P.info? e = some i) (hz0 : i.zero = some z) (hzc : z.cells = Z) (hz1 : i.size = Z.size) (hz2 : i.bytes = bytes)
  (v : Value) (n : Nat) (xs : List Value) (A : Nat)
  (hv : (v = .slice none 0 0 ∧ n = 0 ∧ xs = []) ∨ (∃ B cur fz, v = .slice (some ⟨B, 0, none⟩) n n ∧ xs.length = n * Z.size ∧ W.heap[B]? = some (.cells cur e fz) ∧ cur.toList.take (n * Z.size) = xs))
  (hs : a.eval s = v) (hx : a.eval x = .slice (some ⟨A, 0, none⟩) 1 1) (hA : ∀ j u, Z.toList[j]? = some u → W.cell? ((⟨A, 0, none⟩ : Addr).add j) = some u)
  (hn : n ≤ 1000000) (hl : (n + 1) * bytes ≤ 140737488355328)
  (h : ∀ N c w1, W.heap.size ≤ N → Below W.heap.size W w1 → w1.heap[N]? = some (.cells ((xs ++ Z.toList).toArray ++ Builtin.zeroCells Z (c - (n + 1))) e (0, 0)) → n + 1 ≤ c → c ≤ maxLen → wpList P ops Q rest (a.put o.dst (.slice (some ⟨N, 0, none⟩) (n + 1) c)) w1) :
  wpList P ops Q (o :: rest) a W := by
 subst hzc hz2
 have hbel : ∀ ob, Below W.heap.size W (W.drew.alloc ob) := fun ob => below_alloc (below_drew1 (Below.refl _ _)) ob
 have hg := fun old => grownCap_ge W (n + 1) old e
 have hgm := fun old => grownCap_le_maxLen W (n + 1) old e (by simp only [maxLen]; omega)
 rcases hv with ⟨rfl, rfl, rfl⟩ | ⟨B, cur, fz, rfl, hlx, hB, htk⟩
 ·have hr := run_append_nil (P := P) W t o.type e i z ht hi hz0 ⟨A, 0, none⟩ 1 1 z.cells.toList (by rw [hz1]; simp) hA (by omega) (by omega) (by omega)
  refine Lib.wpList_append_run W hgd s x t t ho _ _ hs hx _ _ hr (h _ _ _ (Nat.le_refl _) (hbel _) ?_ (hg 0) (hgm 0))
  refine (heap_alloc_new W.drew _).trans ?_
  first | (simp; done) | (congr 2; apply Array.ext'; simp)
 have hold : ∀ j u, xs[j]? = some u → W.cell? ((⟨B, 0, none⟩ : Addr).add j) = some u := fun j u hu => by
  rw [show ((⟨B, 0, none⟩ : Addr).add j) = ⟨B, j, none⟩ by unfold Addr.add; split <;> simp_all, cell_of_row W B j cur e fz hB, ← hu, ← htk, List.getElem?_take]
  have hj : j < xs.length := (List.getElem?_eq_some_iff.1 hu).1
  rw [if_pos (by omega), Array.getElem?_toList]
 have hr := run_append_grow (P := P) W t o.type e i z ht hi hz0 ⟨B, 0, none⟩ n n xs (by rw [hz1]; exact hlx) hold ⟨A, 0, none⟩ 1 1 z.cells.toList (by rw [hz1]; simp) hA (by omega) (by omega) (growslice_fits (by omega) hl)
 refine Lib.wpList_append_run W hgd s x t t ho _ _ hs hx _ _ hr (h _ _ _ (Nat.le_refl _) (hbel _) ?_ (hg n) (hgm n))
 refine (heap_alloc_new W.drew _).trans ?_
 first | (simp; done) | (congr 2; apply Array.ext'; simp)
end
theorem zc_at (w : World) (j : Nat) (u : Value) (h : zc.toList[j]? = some u) : (w.alloc (.cells zc 86)).cell? ((⟨w.heap.size, 0, none⟩ : Addr).add j) = some u := by
 rw [show ((⟨w.heap.size, 0, none⟩ : Addr).add j) = ⟨w.heap.size, j, none⟩ by unfold Addr.add; split <;> simp_all]
 have : (w.alloc (.cells zc 86)).cell? ⟨w.heap.size, j, none⟩ = zc.toList[j]? := by
  simp [World.cell?, World.alloc, -World.alloc_eq]
 rw [this, h]
set_option maxHeartbeats 1000000 in
set_option maxRecDepth 100000 in
theorem getV_full (g co n : Nat) (Bo : Option (Nat × Nat)) (W : World) (h : CS zc 86 W g co Bo n) (hn : n ≤ 1000000) (hB : (Bo = none ∧ n = 0) ∨ ∃ B, Bo = some (B, n)) :
  Calls Tryd.prog 39 #[.pointer (some ⟨g, co, none⟩)] W fun e W' => ∃ B c, e = .returned (.pointer (some ⟨B, n * 5, none⟩)) ∧ NewV zc 86 W W' g co Bo n B c := by
 have hf := h.soft
 have hglt := h.glt
 obtain ⟨V, hV, hc⟩ : ∃ V, V = cv Bo n ∧ W.cell? ⟨g, co, none⟩ = some V := ⟨_, rfl, h.at_⟩
 obtain ⟨xs, hvx⟩ : ∃ xs : List Value, xs.length = n * 5 ∧ ((V = .slice none 0 0 ∧ n = 0 ∧ xs = []) ∨ (∃ B cur fz, V = .slice (some ⟨B, 0, none⟩) n n ∧ B < W.heap.size ∧ W.heap[B]? = some (.cells cur 86 fz) ∧ cur.toList.take (n * 5) = xs)) ∧ (∀ B0 c0, Bo = some (B0, c0) → ∀ j, j < n * zc.size → W.cell? ⟨B0, j, none⟩ = xs[j]?) := by
  rcases h.row with ⟨e, e2⟩ | ⟨B, c, xs, e, hne, hnc, hm, hl, hh⟩
  ·subst e e2
   exact ⟨[], rfl, .inl ⟨hV, rfl, rfl⟩, fun _ _ e => by cases e⟩
  rcases hB with ⟨e', _⟩ | ⟨B', e'⟩
  ·rw [e'] at e; cases e
  rw [e'] at e
  obtain ⟨rfl, rfl⟩ := Prod.mk.inj (Option.some.inj e)
  subst e'
  refine ⟨xs, hl, .inr ⟨_, _, _, hV, (Array.getElem?_eq_some_iff.1 hh).1, hh, ?_⟩, fun B0 c0 e0 j hj => ?_⟩
  rotate_left
  ·obtain ⟨rfl, rfl⟩ := Prod.mk.inj (Option.some.inj e0)
   exact CS.cells (g := g) (co := co) hl hh j hj
  have hz5 : zc.size = 5 := rfl
  rw [hz5] at hl
  rw [Array.toList_append, List.take_append_of_le_length (by simp; omega), List.take_of_length_le (by simp; omega)]
 have hlen : (∃ ad, V = .slice ad n n) := by
  rcases hvx.2.1 with ⟨e, e2, _⟩ | ⟨B, _, _, e, _⟩
  ·exact ⟨none, by rw [e, e2]⟩
  exact ⟨_, e⟩
 obtain ⟨ad, rfl⟩ := hlen
 have H := Aside0.mk h
 have HX := Aside0.mk hvx
 clear h hvx hV hB
 have q0 : (0 : Int) ≤ n := by omega
 have q1 : (n : Int) < (n : Int) + 1 := by omega
 have qn : ¬ ((n : Int) < n) := by omega
 have hw2 : IntKind.i64.wrap (n : Int) = n := by rw [IntKind.wrap_i64]; omega
 obtain ⟨i0, hi, hz0, hz1, hz2⟩ := info_parts (P := Tryd.prog) (e := 86) (z := .agg zc) (size := 5) (bytes := 80) (by kernel_rfl)
 go_enter Tryd.func39, Tryd.ntmps39
 go_wp2
 go_quiet (fail)
 go_wp2_with (at_builtin; refine wpList_push rfl _ _ 48 86 rfl Tryd.underlying48 hi hz0 (Z := zc) rfl hz1 hz2 (.slice ad n n) n xs W.heap.size ?c1 rfl rfl ?c2 hn (by omega) ?_)
 case c1 =>
  rcases HX.out.2.1 with ⟨e, e2, e3⟩ | ⟨B, cur, fz, e, hlt, hh, ht⟩
  ·exact .inl ⟨e, e2, e3⟩
  exact .inr ⟨B, cur, fz, e, HX.out.1, (Below.heap_alloc _ _ B hlt).trans hh, ht⟩
 case c2 => exact zc_at _
 intro N c w1 hN hb1 hh1 hc1 hm1
 have hb : Below W.heap.size W w1 := (below_alloc (pw_below_drewN (Below.refl _ _) _) _).trans (hb1.mono (by simp))
 have hcw : w1.cell? ⟨g, co, none⟩ = some (.slice ad n n) := (World.cell?_of_block (hb.block g hglt)).trans hc
 have hfw : w1.frozen? ⟨g, co, none⟩ = false := (World.frozen?_of_block (hb.block g hglt)).trans hf
 have hN' : W.heap.size ≤ N := by have : W.heap.size ≤ N := Nat.le_trans (by simp) hN; exact this
 have HB := Aside0.mk hb
 have HH := Aside0.mk hh1
 clear hb hb1 hh1 hN
 go_wp2
 go_quiet (fail)
 go_wp2
 go_ret
 exact ⟨N, c, rfl, newV H.out HB.out (.inr hN') HX.out.1 HX.out.2.2 HH.out hc1 hm1 _⟩
theorem getV (g co n : Nat) (Bo : Option (Nat × Nat)) (W : World) (h : CS zc 86 W g co Bo n) (hn : n ≤ 1000000) :
  Calls Tryd.prog 39 #[.pointer (some ⟨g, co, none⟩)] W fun e W' => ∃ B c, e = .returned (.pointer (some ⟨B, n * 5, none⟩)) ∧ NewV zc 86 W W' g co Bo n B c := by
 rcases h.row with ⟨e, e2⟩ | ⟨B, c, xs, e, hne, hnc, hm, hl, hh⟩
 ·exact getV_full g co n Bo W h hn (.inl ⟨e, e2⟩)
 rcases Nat.lt_or_ge n c with q | q
 ·subst e
  exact (getV_room g co n B c W h q).mono fun e w' hq => ⟨B, c, hq.1, hq.2⟩
 have : n = c := by omega
 subst this
 exact getV_full g co n Bo W h hn (.inr ⟨B, e⟩)
set_option maxHeartbeats 1000000 in
set_option maxRecDepth 100000 in
theorem getK_room (g co n B c : Nat) (W : World) (h : CS zk 108 W g co (some (B, c)) n) (hn : n < c) :
  Calls Tryd.prog 94 #[.pointer (some ⟨g, co, none⟩)] W fun e W' => e = .returned (.pointer (some ⟨B, n * 2, none⟩)) ∧ NewV zk 108 W W' g co (some (B, c)) n B c := by
 have hc := h.at_
 have hf := h.soft
 simp only [cv] at hc
 have H := Aside0.mk h
 clear h
 have hle : ((n : Int) + 1).toNat = n + 1 := by omega
 have hcm : c ≤ maxLen := by
  rcases H.out.row with ⟨e, _⟩ | ⟨B', c', xs, e, _, _, hm, _⟩
  ·cases e
  obtain ⟨rfl, rfl⟩ := Prod.mk.inj (Option.some.inj e)
  exact hm
 have hw : IntKind.i64.wrap ((n : Int) + 1) = n + 1 := by rw [IntKind.wrap_i64]; simp only [maxLen] at hcm; omega
 have q0 : (0 : Int) ≤ n := by omega
 have q1 : (n : Int) < (n : Int) + 1 := by omega
 have hw2 : IntKind.i64.wrap (n : Int) = n := by rw [IntKind.wrap_i64]; simp only [maxLen] at hcm; omega
 go_enter Tryd.func94, Tryd.ntmps94
 go_wp2
 go_quiet (fail)
 go_wp2
 go_region
 go_wp2
 go_quiet (fail)
 go_wp2
 go_ret
 refine ⟨rfl, ?_⟩
 rcases H.out.row with ⟨e, _⟩ | ⟨B', c', xs, e, hne, hnc, hm, hl, hh⟩
 ·cases e
 obtain ⟨rfl, rfl⟩ := Prod.mk.inj (Option.some.inj e)
 refine newV (xs := xs) H.out (pw_below_drewN (Below.refl _ _) _) (.inl rfl) hl (fun B0 c0 e0 j hj => ?_) ?_ hn hm _
 ·obtain ⟨rfl, rfl⟩ := Prod.mk.inj (Option.some.inj e0)
  exact CS.cells (g := g) (co := co) hl hh j hj
 refine ((pw_below_drewN (Below.refl W.heap.size W) _).block _ (Array.getElem?_eq_some_iff.1 hh).1).trans ?_
 rw [hh, show c - n = (c - (n + 1)) + 1 by omega, zeroCells_succ]
 congr 2
 apply Array.ext'
 simp
theorem zk_at (w : World) (j : Nat) (u : Value) (h : zk.toList[j]? = some u) : (w.alloc (.cells zk 108)).cell? ((⟨w.heap.size, 0, none⟩ : Addr).add j) = some u := by
 rw [show ((⟨w.heap.size, 0, none⟩ : Addr).add j) = ⟨w.heap.size, j, none⟩ by unfold Addr.add; split <;> simp_all]
 have : (w.alloc (.cells zk 108)).cell? ⟨w.heap.size, j, none⟩ = zk.toList[j]? := by
  simp [World.cell?, World.alloc, -World.alloc_eq]
 rw [this, h]
set_option maxHeartbeats 1000000 in
set_option maxRecDepth 100000 in
theorem getK_full (g co n : Nat) (Bo : Option (Nat × Nat)) (W : World) (h : CS zk 108 W g co Bo n) (hn : n ≤ 1000000) (hB : (Bo = none ∧ n = 0) ∨ ∃ B, Bo = some (B, n)) :
  Calls Tryd.prog 94 #[.pointer (some ⟨g, co, none⟩)] W fun e W' => ∃ B c, e = .returned (.pointer (some ⟨B, n * 2, none⟩)) ∧ NewV zk 108 W W' g co Bo n B c := by
 have hf := h.soft
 have hglt := h.glt
 obtain ⟨V, hV, hc⟩ : ∃ V, V = cv Bo n ∧ W.cell? ⟨g, co, none⟩ = some V := ⟨_, rfl, h.at_⟩
 obtain ⟨xs, hvx⟩ : ∃ xs : List Value, xs.length = n * 2 ∧ ((V = .slice none 0 0 ∧ n = 0 ∧ xs = []) ∨ (∃ B cur fz, V = .slice (some ⟨B, 0, none⟩) n n ∧ B < W.heap.size ∧ W.heap[B]? = some (.cells cur 108 fz) ∧ cur.toList.take (n * 2) = xs)) ∧ (∀ B0 c0, Bo = some (B0, c0) → ∀ j, j < n * zk.size → W.cell? ⟨B0, j, none⟩ = xs[j]?) := by
  rcases h.row with ⟨e, e2⟩ | ⟨B, c, xs, e, hne, hnc, hm, hl, hh⟩
  ·subst e e2
   exact ⟨[], rfl, .inl ⟨hV, rfl, rfl⟩, fun _ _ e => by cases e⟩
  rcases hB with ⟨e', _⟩ | ⟨B', e'⟩
  ·rw [e'] at e; cases e
  rw [e'] at e
  obtain ⟨rfl, rfl⟩ := Prod.mk.inj (Option.some.inj e)
  subst e'
  refine ⟨xs, hl, .inr ⟨_, _, _, hV, (Array.getElem?_eq_some_iff.1 hh).1, hh, ?_⟩, fun B0 c0 e0 j hj => ?_⟩
  rotate_left
  ·obtain ⟨rfl, rfl⟩ := Prod.mk.inj (Option.some.inj e0)
   exact CS.cells (g := g) (co := co) hl hh j hj
  have hzz : zk.size = 2 := rfl
  rw [hzz] at hl
  rw [Array.toList_append, List.take_append_of_le_length (by simp; omega), List.take_of_length_le (by simp; omega)]
 have hlen : (∃ ad, V = .slice ad n n) := by
  rcases hvx.2.1 with ⟨e, e2, _⟩ | ⟨B, _, _, e, _⟩
  ·exact ⟨none, by rw [e, e2]⟩
  exact ⟨_, e⟩
 obtain ⟨ad, rfl⟩ := hlen
 have H := Aside0.mk h
 have HX := Aside0.mk hvx
 clear h hvx hV hB
 have q0 : (0 : Int) ≤ n := by omega
 have q1 : (n : Int) < (n : Int) + 1 := by omega
 have qn : ¬ ((n : Int) < n) := by omega
 have hw2 : IntKind.i64.wrap (n : Int) = n := by rw [IntKind.wrap_i64]; omega
 obtain ⟨i0, hi, hz0, hz1, hz2⟩ := info_parts (P := Tryd.prog) (e := 108) (z := .agg zk) (size := 2) (bytes := 24) (by kernel_rfl)
 go_enter Tryd.func94, Tryd.ntmps94
 go_wp2
 go_quiet (fail)
 go_wp2_with (at_builtin; refine wpList_push rfl _ _ 81 108 rfl Tryd.underlying81 hi hz0 (Z := zk) rfl hz1 hz2 (.slice ad n n) n xs W.heap.size ?c1 rfl rfl ?c2 hn (by omega) ?_)
 case c1 =>
  rcases HX.out.2.1 with ⟨e, e2, e3⟩ | ⟨B, cur, fz, e, hlt, hh, ht⟩
  ·exact .inl ⟨e, e2, e3⟩
  exact .inr ⟨B, cur, fz, e, HX.out.1, (Below.heap_alloc _ _ B hlt).trans hh, ht⟩
 case c2 => exact zk_at _
 intro N c w1 hN hb1 hh1 hc1 hm1
 have hb : Below W.heap.size W w1 := (below_alloc (pw_below_drewN (Below.refl _ _) _) _).trans (hb1.mono (by simp))
 have hcw : w1.cell? ⟨g, co, none⟩ = some (.slice ad n n) := (World.cell?_of_block (hb.block g hglt)).trans hc
 have hfw : w1.frozen? ⟨g, co, none⟩ = false := (World.frozen?_of_block (hb.block g hglt)).trans hf
 have hN' : W.heap.size ≤ N := by have : W.heap.size ≤ N := Nat.le_trans (by simp) hN; exact this
 have HB := Aside0.mk hb
 have HH := Aside0.mk hh1
 clear hb hb1 hh1 hN
 go_wp2
 go_quiet (fail)
 go_wp2
 go_ret
 exact ⟨N, c, rfl, newV H.out HB.out (.inr hN') HX.out.1 HX.out.2.2 HH.out hc1 hm1 _⟩
theorem getK (g co n : Nat) (Bo : Option (Nat × Nat)) (W : World) (h : CS zk 108 W g co Bo n) (hn : n ≤ 1000000) :
  Calls Tryd.prog 94 #[.pointer (some ⟨g, co, none⟩)] W fun e W' => ∃ B c, e = .returned (.pointer (some ⟨B, n * 2, none⟩)) ∧ NewV zk 108 W W' g co Bo n B c := by
 rcases h.row with ⟨e, e2⟩ | ⟨B, c, xs, e, hne, hnc, hm, hl, hh⟩
 ·exact getK_full g co n Bo W h hn (.inl ⟨e, e2⟩)
 rcases Nat.lt_or_ge n c with q | q
 ·subst e
  exact (getK_room g co n B c W h q).mono fun e w' hq => ⟨B, c, hq.1, hq.2⟩
 have : n = c := by omega
 subst this
 exact getK_full g co n Bo W h hn (.inr ⟨B, e⟩)
end Go.Proofs.YtnajijaachgipaaDoor.H
end
section
namespace Go.Proofs.YtnajijaachgipaaDoor.H
open Go.RowKit Go.Proofs.YtnajijaachgipaaDoorW.PrintWords Go.Proofs.YtnajijaachgipaaDoorW.PrintLast Go.Proofs.YtnajijaachgipaaDoorW.PrintMore
set_option linter.unusedVariables false
/-- From one state of the cache to another. -/
structure PS (W0 W : World) (g co : Nat) (Bo : Option (Nat × Nat)) (n : Nat) (B1 : Option (Nat × Nat)) (n1 : Nat) : Prop where
 ch : Ch W0 W (SK g co Bo (n * 5))
 cs : CS zc 86 W g co B1 n1
 lk : Lk W0 Bo (n * 5) B1 (n1 * 5)
/-- The places of what has been made on the way. -/
def Nw (W0 W : World) (g : Nat) (Bo : Option (Nat × Nat)) (n : Nat) (B1 : Option (Nat × Nat)) (n1 : Nat) (b o : Nat) : Prop := ¬ Old W0 g Bo (n * 5) b o ∧ Old W g B1 (n1 * 5) b o
section
variable {W W0 W1 W2 : World} {g co n n1 n2 b o : Nat} {Bo B1 B2 : Option (Nat × Nat)} {S : Nat → Nat → Prop}
theorem PS.refl (h : CS zc 86 W g co Bo n) : PS W W g co Bo n Bo n := ⟨Ch.refl _ _, h, Lk.refl _ _ _⟩
theorem PS.trans (h : PS W0 W1 g co Bo n B1 n1) (k : PS W1 W2 g co B1 n1 B2 n2) : PS W0 W2 g co Bo n B2 n2 :=
 ⟨h.ch.comp k.ch h.lk.sub, k.cs, h.lk.trans k.lk h.ch.size⟩
theorem PS.below (h : PS W0 W1 g co Bo n B1 n1) (hb : Below W1.heap.size W1 W2) : PS W0 W2 g co Bo n B1 n1 :=
 ⟨h.ch.comp (Ch.of_below hb (fun _ _ => False)) (fun _ _ _ h => h.elim), h.cs.ch (Ch.of_below hb (fun _ _ => False)) id (fun _ _ _ _ _ => id), h.lk⟩
theorem PS.new {B c : Nat} (h : PS W0 W1 g co Bo n B1 n1) (k : NewV zc 86 W1 W2 g co B1 n1 B c) : PS W0 W2 g co Bo n (some (B, c)) (n1 + 1) :=
 h.trans ⟨k.ch, k.st, k.lk⟩
theorem PS.write {cur : Array Value} {ty : TypeId} (h : PS W0 W1 g co Bo n B1 n1) (hn : ¬ Old W0 g Bo (n * 5) b o) (ho : Old W1 g B1 (n1 * 5) b o) (hc : W1.heap[b]? = some (.cells cur ty (0, 0))) (v : Value) :
  PS W0 (W1.setCell ⟨b, o, none⟩ v) g co Bo n B1 n1 := by
 refine ⟨h.ch.comp (Ch.set hc v) ?_, h.cs.ch (Ch.set hc v) ?_ ?_, h.lk⟩
 ·rintro k p hk ⟨rfl, rfl⟩
  exact .inr (not_old hk ho.2.1 hn)
 ·rintro ⟨e, _⟩
  exact ho.2.1 e.symm
 rintro B c e p hp ⟨rfl, rfl⟩
 have := ho.2.2 c e
 have hz : zc.size = 5 := rfl
 rw [hz] at hp
 omega
theorem CS.same {Z : Array Value} {E : TypeId} (h : CS Z E W g co Bo n) (hg : W1.heap[g]? = W.heap[g]?) (hB : ∀ B c, Bo = some (B, c) → W1.heap[B]? = W.heap[B]?) : CS Z E W1 g co Bo n := by
 obtain ⟨⟨arr, ty, e, hv⟩, hr⟩ := h
 refine ⟨⟨arr, ty, hg.trans e, hv⟩, ?_⟩
 rcases hr with hn | ⟨B, c, xs, eB, hne, hnc, hcm, hl, hh⟩
 ·exact .inl hn
 exact .inr ⟨B, c, xs, eB, hne, hnc, hcm, hl, (hB B c eB).trans hh⟩
theorem PS.grown {row : Option Nat} (h : PS W0 W1 g co Bo n B1 n1) (hg : W1.grownBy W2 row) (hr : ∀ r, row = some r → W0.heap.size ≤ r ∧ r ≠ g ∧ ∀ c, B1 ≠ some (r, c)) : PS W0 W2 g co Bo n B1 n1 := by
 refine ⟨h.ch.grown hg (fun r e => (hr r e).1), h.cs.same (hg.block g h.cs.glt ?_) (fun B c e => hg.block B (h.cs.blt e) ?_), h.lk⟩
 ·intro e
  exact (hr g e.symm).2.1 rfl
 intro e'
 exact (hr B e'.symm).2.2 c e
/-- A place of a Value that has just been made. -/
theorem NewV.old {B c j : Nat} (h : NewV zc 86 W W1 g co Bo n B c) (hj : j < 5) : ¬ Old W g Bo (n * 5) B (n * 5 + j) ∧ Old W1 g (some (B, c)) ((n + 1) * 5) B (n * 5 + j) := by
 refine ⟨fun ho => ?_, h.st.blt rfl, h.st.ne rfl, fun c' e => by omega⟩
 rcases h.lk.2 B c rfl with ⟨c', e⟩ | hle
 ·have := ho.2.2 c' e; omega
 have := ho.1; omega
theorem NewV.form {B c : Nat} (h : NewV zc 86 W W1 g co Bo n B c) : ∃ cur, W1.heap[B]? = some (.cells cur 86 (0, 0)) ∧ ∀ j, j < 5 → n * 5 + j < cur.size := by
 rcases h.st.row with ⟨e, _⟩ | ⟨B', c', xs, e, _, hnc, _, hl, hh⟩
 ·cases e
 obtain ⟨rfl, rfl⟩ := Prod.mk.inj (Option.some.inj e)
 have hz : zc.size = 5 := rfl
 rw [hz] at hl
 exact ⟨_, hh, fun j hj => by rw [Array.size_append, List.size_toArray, hl]; omega⟩
theorem cell_setCell {cur : Array Value} {ty : TypeId} (hc : W.heap[b]? = some (.cells cur ty (0, 0))) (v : Value) (k p : Nat) : (W.setCell ⟨b, o, none⟩ v).cell? ⟨k, p, none⟩ = if k = b ∧ p = o ∧ o < cur.size then some v else W.cell? ⟨k, p, none⟩ := by
 by_cases hk : k < W.heap.size
 ·by_cases e : k = b ∧ p = o
  ·obtain ⟨rfl, rfl⟩ := e
   rw [setCell_eq_setRow W k p cur ty (0, 0) v hc, cell_of_row _ k p _ ty (0, 0) (setRow_heap W k cur _ ty (0, 0) hc), cell_of_row _ k p _ ty (0, 0) hc]
   by_cases q : p < cur.size
   ·rw [if_pos ⟨rfl, rfl, q⟩]; simp [q]
   rw [if_neg (fun h => q h.2.2)]; simp [q]
  rw [if_neg (fun h => e ⟨h.1, h.2.1⟩)]
  exact (Ch.set hc v).cell k p hk e
 have hb : b < W.heap.size := (Array.getElem?_eq_some_iff.1 hc).1
 rw [if_neg (fun h => by omega)]
 refine World.cell?_of_block ?_
 show (W.setCell ⟨b, o, none⟩ v).heap[k]? = W.heap[k]?
 rw [setCell_eq_setRow W b o cur ty (0, 0) v hc]
 exact setRow_other _ _ _ _ (by omega)
/-- A Value of the cache is given its text and its kind. -/
theorem leaf_done {B c m : Nat} {k : Int} {s : ByteArray} (h0 : PS W0 W g co Bo n B1 n1) (h : NewV zc 86 W W1 g co B1 n1 B c) (h1 : k ≠ 1) (h2 : k ≠ 2) :
  PS W0 (((W1.setCell ⟨B, n1 * 5 + 4, none⟩ (.int .i64 k)).setCell ⟨B, n1 * 5 + 3, none⟩ (.string s)).drewN m) g co Bo n (some (B, c)) (n1 + 1) ∧
  Lies (((W1.setCell ⟨B, n1 * 5 + 4, none⟩ (.int .i64 k)).setCell ⟨B, n1 * 5 + 3, none⟩ (.string s)).drewN m) (Nw W0 (((W1.setCell ⟨B, n1 * 5 + 4, none⟩ (.int .i64 k)).setCell ⟨B, n1 * 5 + 3, none⟩ (.string s)).drewN m) g Bo n (some (B, c)) (n1 + 1)) B (n1 * 5) (.mk k s [] []) := by
 obtain ⟨cur, hc, hcs⟩ := h.form
 have a0 := h0.new h
 have no : ∀ j, j < 5 → ¬ Old W0 g Bo (n * 5) B (n1 * 5 + j) := fun j hj ho => (h.old hj).1 (ho.step h0.lk h0.ch.size)
 have a1 := a0.write (no 4 (by omega)) (h.old (by omega)).2 hc (.int .i64 k)
 obtain ⟨cur2, hc2, hs2⟩ := (Ch.set (o := n1 * 5 + 4) hc (.int .i64 k)).form B (h.st.blt rfl) cur _ hc
 have a2 := a1.write (no 3 (by omega)) ((h.old (j := 3) (by omega)).2.step (Lk.refl _ _ _) (Ch.set hc _).size) hc2 (.string s)
 have hbX : ∀ X : World, Below X.heap.size X (X.drewN m) := fun X => pw_below_drewN (Below.refl _ _) m
 have hb := hbX ((W1.setCell ⟨B, n1 * 5 + 4, none⟩ (.int .i64 k)).setCell ⟨B, n1 * 5 + 3, none⟩ (.string s))
 have a3 := a2.below hb
 have hBl : B < ((W1.setCell ⟨B, n1 * 5 + 4, none⟩ (.int .i64 k)).setCell ⟨B, n1 * 5 + 3, none⟩ (.string s)).heap.size := (a2.cs.blt rfl)
 have hold : ∀ j, j < 5 → Old (((W1.setCell ⟨B, n1 * 5 + 4, none⟩ (.int .i64 k)).setCell ⟨B, n1 * 5 + 3, none⟩ (.string s)).drewN m) g (some (B, c)) ((n1 + 1) * 5) B (n1 * 5 + j) := fun j hj => ⟨Nat.lt_of_lt_of_le hBl hb.size, a3.cs.ne rfl, fun _ _ => by omega⟩
 refine ⟨a3, .leaf h1 h2 ?_ ⟨no 3 (by omega), hold 3 (by omega)⟩ ?_ ⟨no 4 (by omega), hold 4 (by omega)⟩ (((show Soft _ B from ⟨_, _, hc2⟩).ch (Ch.set (o := n1 * 5 + 3) hc2 (.string s))).ch (Ch.of_below hb (fun _ _ => False)))⟩
 ·rw [World.cell?_of_block (hb.block B hBl), cell_setCell hc2, if_pos ⟨rfl, rfl, by rw [hs2]; exact hcs 3 (by omega)⟩]
 rw [World.cell?_of_block (hb.block B hBl), cell_setCell hc2, if_neg (by omega), cell_setCell hc, if_pos ⟨rfl, rfl, hcs 4 (by omega)⟩]
end
end Go.Proofs.YtnajijaachgipaaDoor.H
end
section
namespace Go.Proofs.YtnajijaachgipaaDoor.PT
open Go.RowKit Go.Proofs.YtnajijaachgipaaDoorW.PrintWords Go.Proofs.YtnajijaachgipaaDoorW.PrintLast Go.Proofs.YtnajijaachgipaaDoorW.PrintMore Go.Proofs.YtnajijaachgipaaDoor.H
set_option linter.unusedVariables false
set_option linter.unusedSimpArgs false
namespace FJ
def sk (k : Nat) (s : ByteArray) : Option ByteArray := (fastjson_skipWS.f k s).bind fun t => if t.size ≤ s.size then some t else none
def rs (k : Nat) (s : ByteArray) : Option (ByteArray × ByteArray × Option Int) := (fastjson_parseRawString.f k s).bind fun r => if r.2.1.size ≤ s.size then some r else none
def rk (k : Nat) (s : ByteArray) : Option (ByteArray × ByteArray × Option Int) := (fastjson_parseRawKey.f k s).bind fun r => if r.2.1.size ≤ s.size then some r else none
def rn (k : Nat) (s : ByteArray) : Option (ByteArray × ByteArray × Option Int) := (fastjson_parseRawNumber.f k s).bind fun r => if r.2.2.isSome = true ∨ r.2.1.size < s.size then some r else none
def rest (s : ByteArray) (n : Nat) : ByteArray := s.extract n s.size
def lit (k : Int) (s : ByteArray) : FT := .mk k s [] []
abbrev Res := Option (FT × ByteArray)
def word (s : ByteArray) (w : List UInt8) (k : Int) (no : Option Res) : Option Res := if (s.size : Int) < w.length then no else if (s.extract 0 w.length).toList = w then some (some (lit k ByteArray.empty, rest s w.length)) else no
def leaf (k : Int) (r : ByteArray × ByteArray × Option Int) : Res := if r.2.2.isSome = true then none else some (lit k r.1, r.2.1)
mutual
def pV : Nat → ByteArray → Int → Option Res
 | 0, _, _ => none
 | k + 1, s, d =>
  if s.size = 0 then some none else if 300 < d + 1 then some none else
  if bt s 0 = 123 then pO k (rest s 1) (d + 1) else
  if bt s 0 = 91 then pA k (rest s 1) (d + 1) else
  if bt s 0 = 34 then (rs k (rest s 1)).bind fun r => some (leaf 7 r) else
  if bt s 0 = 116 then word s [116, 114, 117, 101] 5 (some none) else
  if bt s 0 = 102 then word s [102, 97, 108, 115, 101] 6 (some none) else
  if bt s 0 = 110 then word s [110, 117, 108, 108] 0 (if 3 ≤ s.size then (fastjson_zzFold.f k (s.extract 0 3) ⟨#[110, 97, 110]⟩).bind fun b => some (if b = true then some (lit 4 (s.extract 0 3), rest s 3) else none) else some none) else
  (rn k s).bind fun r => some (leaf 4 r)
def pA : Nat → ByteArray → Int → Option Res
 | 0, _, _ => none
 | k + 1, s, d => (sk k s).bind fun s => if s.size = 0 then some none else if bt s 0 = 93 then some (some (.mk 2 ByteArray.empty [] [], rest s 1)) else pAl k s d []
def pAl : Nat → ByteArray → Int → List FT → Option Res
 | 0, _, _, _ => none
 | k + 1, s, d, ts => (sk k s).bind fun s => (pV k s d).bind fun r => match r with
  | none => some none
  | some x => (sk k x.2).bind fun s => if s.size = 0 then some none else if bt s 0 = 44 then pAl k (rest s 1) d (ts ++ [x.1]) else if bt s 0 = 93 then some (some (.mk 2 ByteArray.empty [] (ts ++ [x.1]), rest s 1)) else some none
def pO : Nat → ByteArray → Int → Option Res
 | 0, _, _ => none
 | k + 1, s, d => (sk k s).bind fun s => if s.size = 0 then some none else if bt s 0 = 125 then some (some (.mk 1 ByteArray.empty [] [], rest s 1)) else pOl k s d [] []
def pOl : Nat → ByteArray → Int → List ByteArray → List FT → Option Res
 | 0, _, _, _, _ => none
 | k + 1, s, d, ks, ts => (sk k s).bind fun s => if s.size = 0 then some none else if bt s 0 = 34 then (rk k (rest s 1)).bind fun r => if r.2.2.isSome = true then some none else
   (sk k r.2.1).bind fun s => if s.size = 0 then some none else if bt s 0 = 58 then (sk k (rest s 1)).bind fun s => (pV k s d).bind fun q => match q with
    | none => some none
    | some x => (sk k x.2).bind fun s => if s.size = 0 then some none else if bt s 0 = 44 then pOl k (rest s 1) d (ks ++ [r.1]) (ts ++ [x.1]) else if bt s 0 = 125 then some (some (.mk 1 ByteArray.empty (ks ++ [r.1]) (ts ++ [x.1]), rest s 1)) else some none
   else some none else some none
end
/-- What a call leaves. -/
def Post (W : World) (g co : Nat) (Bo : Option (Nat × Nat)) (n m : Nat) : Res → Ending → World → Prop
 | none, e, W' => ∃ (t : ByteArray) (et : Nat) (ep : Value), e = .returned (.tuple #[.pointer none, .string t, .iface et ep]) ∧ Ch W W' (SK g co Bo (n * 5))
 | some x, e, W' => ∃ (b o : Nat) (B' : Option (Nat × Nat)) (n' : Nat), e = .returned (.tuple #[.pointer (some ⟨b, o, none⟩), .string x.2, .nilIface]) ∧ PS W W' g co Bo n B' n' ∧ n' + x.2.size ≤ m ∧ Lies W' (Nw W W' g Bo n B' n') b o x.1
def VC (k : Nat) : Prop := ∀ (s : ByteArray) (d : Int) (r : Res), pV k s d = some r → 0 ≤ d → d ≤ 300 → ∀ (W : World) (g co : Nat) (Bo : Option (Nat × Nat)) (n : Nat), CS zc 86 W g co Bo n → n + s.size ≤ 200000 →
 Calls Tryd.prog 49 #[.pointer (some ⟨g, co, none⟩), .string s, .int .i64 d] W (Post W g co Bo n (n + s.size) r)
def AC (k : Nat) : Prop := ∀ (s : ByteArray) (d : Int) (r : Res), pA k s d = some r → 1 ≤ d → d ≤ 300 → ∀ (W : World) (g co : Nat) (Bo : Option (Nat × Nat)) (n : Nat), CS zc 86 W g co Bo n → n + s.size + 1 ≤ 200000 →
 Calls Tryd.prog 72 #[.pointer (some ⟨g, co, none⟩), .string s, .int .i64 d] W (Post W g co Bo n (n + s.size + 1) r)
def OC (k : Nat) : Prop := ∀ (s : ByteArray) (d : Int) (r : Res), pO k s d = some r → 1 ≤ d → d ≤ 300 → ∀ (W : World) (g co : Nat) (Bo : Option (Nat × Nat)) (n : Nat), CS zc 86 W g co Bo n → n + s.size + 1 ≤ 200000 →
 Calls Tryd.prog 71 #[.pointer (some ⟨g, co, none⟩), .string s, .int .i64 d] W (Post W g co Bo n (n + s.size + 1) r)
theorem errNew (a : ByteArray) (w : World) : Calls Tryd.prog 41 #[.string a] w fun e w' => ∃ (et : Nat) (ep : Value), e = .returned (.iface et ep) ∧ Below w.heap.size w w' :=
 (errors_New.calls a (some 0) w rfl).mono fun _ _ h => h
theorem nul {s : ByteArray} (h : s.size ≠ 0) : ((s.size : Int) == 0) = false ∧ 1 ≤ (s.size : Int) ∧ ((0 < s.size) = True) ∧ ((0 < (s.size : Int)) = True) ∧ (∀ h : 0 < s.size, ((s[0]'h).toNat : Int) = bt s 0) :=
 ⟨beq_eq_false_iff_ne.2 (by omega), by omega, eq_true (by omega), eq_true (by omega), bt_at s 0⟩
theorem size_rest (s : ByteArray) (n : Nat) : (rest s n).size = s.size - n := by simp [rest]
theorem Post.err {W W' : World} {g co n m : Nat} {Bo : Option (Nat × Nat)} {t : ByteArray} {ep : Value} {et : Nat} (h : Ch W W' (SK g co Bo (n * 5))) : Post W g co Bo n m none (.returned (.tuple #[.pointer none, .string t, .iface et ep])) W' := ⟨t, et, ep, rfl, h⟩
set_option maxHeartbeats 2000000 in
set_option maxRecDepth 100000 in
theorem val_empty (s : ByteArray) (d : Int) (h : s.size = 0) (W : World) (g co : Nat) (Bo : Option (Nat × Nat)) (n m : Nat) :
  Calls Tryd.prog 49 #[.pointer (some ⟨g, co, none⟩), .string s, .int .i64 d] W (Post W g co Bo n m none) := by
 have e0 : ((s.size : Int) == 0) = true := beq_iff_eq.2 (by omega)
 go_enter Tryd.func49, Tryd.ntmps49
 go_wp2_with (go_at_call 41; refine (errNew _ _).mono ?_; rintro e w1 ⟨et, ep, rfl, hb⟩)
 go_ret3
 exact Post.err (Ch.of_below hb _)
set_option maxHeartbeats 2000000 in
set_option maxRecDepth 100000 in
theorem val_deep (s : ByteArray) (d : Int) (h : s.size ≠ 0) (hd : d = 300) (W : World) (g co : Nat) (Bo : Option (Nat × Nat)) (n m : Nat) :
  Calls Tryd.prog 49 #[.pointer (some ⟨g, co, none⟩), .string s, .int .i64 d] W (Post W g co Bo n m none) := by
 subst hd
 obtain ⟨e0, e1, e2, e3, e4⟩ := nul h
 go_enter Tryd.func49, Tryd.ntmps49
 go_wp2_with (go_at_call 41; refine (errNew _ _).mono ?_; rintro e w1 ⟨et, ep, rfl, hb⟩)
 go_ret3
 exact Post.err (Ch.of_below hb _)
theorem cutr (s : ByteArray) (i : Int) (n : Nat) (hi : i = n) (hn : n ≤ s.size) (W : World) : (Instr.slice 9 (.string s) (some (.int .i64 i)) none none).run Tryd.prog W = .ok (.string (rest s n)) W := by
 have := run_slice_string_l (P := Tryd.prog) W 9 s Tryd.underlying9 .i64 i (by omega) (by omega)
 rw [this, hi, Int.toNat_natCast]; rfl
theorem cuth (s : ByteArray) (i : Int) (n : Nat) (hi : i = n) (hn : n ≤ s.size) (W : World) : (Instr.slice 9 (.string s) none (some (.int .i64 i)) none).run Tryd.prog W = .ok (.string (s.extract 0 n)) W := by
 have := run_slice_string_h (P := Tryd.prog) W 9 s Tryd.underlying9 .i64 i (by omega) (by omega)
 rw [this, hi, Int.toNat_natCast]
theorem raw_ok {k : Nat} {s a b : ByteArray} (h : rs k s = some (a, b, none)) (w : World) : Calls Tryd.prog 73 #[.string s] w fun e w' => e = .returned (.tuple #[.string a, .string b, .nilIface]) ∧ Below w.heap.size w w' := by
 obtain ⟨q, hq, hx⟩ := Option.bind_eq_some_iff.mp h
 split at hx
 ·obtain rfl := Option.some.inj hx
  exact (fastjson_parseRawString.calls k s a b none w hq).mono fun e w' ⟨_, _, he, hb⟩ => ⟨he, hb⟩
 cases hx
theorem raw_err {k : Nat} {s a b : ByteArray} {x : Int} (h : rs k s = some (a, b, some x)) (w : World) : Calls Tryd.prog 73 #[.string s] w fun e w' => ∃ (et : Nat) (ep : Value), e = .returned (.tuple #[.string a, .string b, .iface et ep]) ∧ Below w.heap.size w w' := by
 obtain ⟨q, hq, hx⟩ := Option.bind_eq_some_iff.mp h
 split at hx
 ·obtain rfl := Option.some.inj hx
  exact (fastjson_parseRawString.calls k s a b (some x) w hq).mono fun e w' ⟨et, ep, he, hb⟩ => ⟨et, ep, he, hb⟩
 cases hx
theorem num_ok {k : Nat} {s a b : ByteArray} (h : rn k s = some (a, b, none)) (w : World) : Calls Tryd.prog 75 #[.string s] w fun e w' => e = .returned (.tuple #[.string a, .string b, .nilIface]) ∧ Below w.heap.size w w' := by
 obtain ⟨q, hq, hx⟩ := Option.bind_eq_some_iff.mp h
 split at hx
 ·obtain rfl := Option.some.inj hx
  exact (fastjson_parseRawNumber.calls k s a b none w hq).mono fun e w' ⟨_, _, he, hb⟩ => ⟨he, hb⟩
 cases hx
theorem num_err {k : Nat} {s a b : ByteArray} {x : Int} (h : rn k s = some (a, b, some x)) (w : World) : Calls Tryd.prog 75 #[.string s] w fun e w' => ∃ (et : Nat) (ep : Value), e = .returned (.tuple #[.string a, .string b, .iface et ep]) ∧ Below w.heap.size w w' := by
 obtain ⟨q, hq, hx⟩ := Option.bind_eq_some_iff.mp h
 split at hx
 ·obtain rfl := Option.some.inj hx
  exact (fastjson_parseRawNumber.calls k s a b (some x) w hq).mono fun e w' ⟨et, ep, he, hb⟩ => ⟨et, ep, he, hb⟩
 cases hx
theorem newv_at {W W1 : World} {g co n B c : Nat} {Bo : Option (Nat × Nat)} (h : NewV zc 86 W W1 g co Bo n B c) : W1.cell? ⟨B, n * 5 + 4, none⟩ = some (.int .i64 0) ∧ W1.frozen? ⟨B, n * 5 + 4, none⟩ = false ∧ W1.cell? ⟨B, n * 5 + 3, none⟩ = some (.string ByteArray.empty) ∧ W1.frozen? ⟨B, n * 5 + 3, none⟩ = false ∧ B < W1.heap.size := by
 obtain ⟨cur, hc, _⟩ := h.form
 exact ⟨h.zero 4 _ rfl, by simp [World.frozen?, hc], h.zero 3 _ rfl, by simp [World.frozen?, hc], h.st.blt rfl⟩
set_option maxHeartbeats 2000000 in
set_option maxRecDepth 100000 in
theorem val_str_ok (k : Nat) (s a b : ByteArray) (d : Int) (h : s.size ≠ 0) (h0 : 0 ≤ d) (hd : d < 300) (hc : bt s 0 = 34) (hr : rs k (rest s 1) = some (a, b, none)) (W : World) (g co : Nat) (Bo : Option (Nat × Nat)) (n : Nat) (hC : CS zc 86 W g co Bo n) (hn : n ≤ 200000) :
  Calls Tryd.prog 49 #[.pointer (some ⟨g, co, none⟩), .string s, .int .i64 d] W fun e W' => ∃ (B c : Nat), e = .returned (.tuple #[.pointer (some ⟨B, n * 5, none⟩), .string b, .nilIface]) ∧ PS W W' g co Bo n (some (B, c)) (n + 1) ∧ Lies W' (Nw W W' g Bo n (some (B, c)) (n + 1)) B (n * 5) (lit 7 a) := by
 obtain ⟨e0, e1, e2, e3, e4⟩ := nul h
 have k1 : (bt s 0 == 123) = false := beq_eq_false_iff_ne.2 (by omega)
 have k2 : (bt s 0 == 91) = false := beq_eq_false_iff_ne.2 (by omega)
 have k3 : (bt s 0 == 34) = true := beq_iff_eq.2 hc
 have hw : IntKind.i64.wrap (d + 1) = d + 1 := by rw [IntKind.wrap_i64]; omega
 have hd1 : decide (300 < d + 1) = false := decide_eq_false (by omega)
 have hcs := cutr s 1 1 rfl (by omega)
 have HR := Aside0.mk hr
 have HC := Aside0.mk hC
 have HN : Aside0 (n ≤ 1000000) := ⟨by omega⟩
 clear hr hC hc
 obtain ⟨q, hq⟩ : ∃ q, q = n * 5 := ⟨_, rfl⟩
 have HQ := Aside0.mk hq
 rw [← hq]
 clear hq hn hd h0
 go_enter Tryd.func49, Tryd.ntmps49
 go_wp2_with (first
  | (go_at_call 73; refine (raw_ok HR.out _).mono ?_; rintro e w1 ⟨rfl, hb⟩; have HP := Aside0.mk ((PS.refl HC.out).below hb); clear hb)
  | (go_at_call 39; refine (getV g co n Bo _ HP.out.cs HN.out).mono ?_; rintro e w2 ⟨B, c, rfl, hv⟩; have HV := Aside0.mk hv; obtain ⟨c4, f4, c3, f3, hlt⟩ := newv_at hv; clear hv; rw [← HQ.out] at c4 f4 c3 f3 ⊢))
 go_ret3
 have hd3 := leaf_done (m := 0) (k := 7) (s := a) HP.out HV.out (by decide) (by decide)
 rw [← HQ.out] at hd3
 exact ⟨B, c, rfl, hd3⟩
set_option maxHeartbeats 2000000 in
set_option maxRecDepth 100000 in
theorem val_num_ok (k : Nat) (s a b : ByteArray) (d : Int) (h : s.size ≠ 0) (h0 : 0 ≤ d) (hd : d < 300) (hc : ¬ (bt s 0 = 123 ∨ bt s 0 = 91 ∨ bt s 0 = 34 ∨ bt s 0 = 116 ∨ bt s 0 = 102 ∨ bt s 0 = 110)) (hr : rn k s = some (a, b, none)) (W : World) (g co : Nat) (Bo : Option (Nat × Nat)) (n : Nat) (hC : CS zc 86 W g co Bo n) (hn : n ≤ 200000) :
  Calls Tryd.prog 49 #[.pointer (some ⟨g, co, none⟩), .string s, .int .i64 d] W fun e W' => ∃ (B c : Nat), e = .returned (.tuple #[.pointer (some ⟨B, n * 5, none⟩), .string b, .nilIface]) ∧ PS W W' g co Bo n (some (B, c)) (n + 1) ∧ Lies W' (Nw W W' g Bo n (some (B, c)) (n + 1)) B (n * 5) (lit 4 a) := by
 obtain ⟨e0, e1, e2, e3, e4⟩ := nul h
 have k1 : (bt s 0 == 123) = false := beq_eq_false_iff_ne.2 (by omega)
 have k2 : (bt s 0 == 91) = false := beq_eq_false_iff_ne.2 (by omega)
 have k3 : (bt s 0 == 34) = false := beq_eq_false_iff_ne.2 (by omega)
 have k4 : (bt s 0 == 116) = false := beq_eq_false_iff_ne.2 (by omega)
 have k5 : (bt s 0 == 102) = false := beq_eq_false_iff_ne.2 (by omega)
 have k6 : (bt s 0 == 110) = false := beq_eq_false_iff_ne.2 (by omega)
 have hw : IntKind.i64.wrap (d + 1) = d + 1 := by rw [IntKind.wrap_i64]; omega
 have hd1 : decide (300 < d + 1) = false := decide_eq_false (by omega)
 have HR := Aside0.mk hr
 have HC := Aside0.mk hC
 have HN : Aside0 (n ≤ 1000000) := ⟨by omega⟩
 clear hr hC hc
 obtain ⟨q, hq⟩ : ∃ q, q = n * 5 := ⟨_, rfl⟩
 have HQ := Aside0.mk hq
 rw [← hq]
 clear hq hn hd h0
 go_enter Tryd.func49, Tryd.ntmps49
 go_wp2_with (first
  | (go_at_call 75; refine (num_ok HR.out _).mono ?_; rintro e w1 ⟨rfl, hb⟩; have HP := Aside0.mk ((PS.refl HC.out).below hb); clear hb)
  | (go_at_call 39; refine (getV g co n Bo _ HP.out.cs HN.out).mono ?_; rintro e w2 ⟨B, c, rfl, hv⟩; have HV := Aside0.mk hv; obtain ⟨c4, f4, c3, f3, hlt⟩ := newv_at hv; clear hv; rw [← HQ.out] at c4 f4 c3 f3 ⊢))
 go_ret3
 have hd3 := leaf_done (m := 0) (k := 4) (s := a) HP.out HV.out (by decide) (by decide)
 rw [← HQ.out] at hd3
 exact ⟨B, c, rfl, hd3⟩
set_option maxHeartbeats 2000000 in
set_option maxRecDepth 100000 in
theorem val_str_err (k : Nat) (s a b : ByteArray) (x d : Int) (h : s.size ≠ 0) (h0 : 0 ≤ d) (hd : d < 300) (hc : bt s 0 = 34) (hr : rs k (rest s 1) = some (a, b, some x)) (W : World) (g co : Nat) (Bo : Option (Nat × Nat)) (n : Nat) (m : Nat) :
  Calls Tryd.prog 49 #[.pointer (some ⟨g, co, none⟩), .string s, .int .i64 d] W (Post W g co Bo n m none) := by
 obtain ⟨e0, e1, e2, e3, e4⟩ := nul h
 have k1 : (bt s 0 == 123) = false := beq_eq_false_iff_ne.2 (by omega)
 have k2 : (bt s 0 == 91) = false := beq_eq_false_iff_ne.2 (by omega)
 have k3 : (bt s 0 == 34) = true := beq_iff_eq.2 hc
 have hw : IntKind.i64.wrap (d + 1) = d + 1 := by rw [IntKind.wrap_i64]; omega
 have hd1 : decide (300 < d + 1) = false := decide_eq_false (by omega)
 have hcs := cutr s 1 1 rfl (by omega)
 have HR := Aside0.mk hr
 clear hr hc hd h0
 go_enter Tryd.func49, Tryd.ntmps49
 go_wp2_with (first
  | (go_at_call 73; refine (raw_err HR.out _).mono ?_; rintro e w1 ⟨et, ep, rfl, hb⟩; have HB := Aside0.mk hb; clear hb)
  | (go_at_call 41; refine (errNew _ _).mono ?_; rintro e w2 ⟨et2, ep2, rfl, hb2⟩))
 go_ret3
 exact Post.err (Ch.of_below (HB.out.trans (hb2.mono HB.out.size)) _)
set_option maxHeartbeats 2000000 in
set_option maxRecDepth 100000 in
theorem val_num_err (k : Nat) (s a b : ByteArray) (x d : Int) (h : s.size ≠ 0) (h0 : 0 ≤ d) (hd : d < 300) (hc : ¬ (bt s 0 = 123 ∨ bt s 0 = 91 ∨ bt s 0 = 34 ∨ bt s 0 = 116 ∨ bt s 0 = 102 ∨ bt s 0 = 110)) (hr : rn k s = some (a, b, some x)) (W : World) (g co : Nat) (Bo : Option (Nat × Nat)) (n : Nat) (m : Nat) :
  Calls Tryd.prog 49 #[.pointer (some ⟨g, co, none⟩), .string s, .int .i64 d] W (Post W g co Bo n m none) := by
 obtain ⟨e0, e1, e2, e3, e4⟩ := nul h
 have k1 : (bt s 0 == 123) = false := beq_eq_false_iff_ne.2 (by omega)
 have k2 : (bt s 0 == 91) = false := beq_eq_false_iff_ne.2 (by omega)
 have k3 : (bt s 0 == 34) = false := beq_eq_false_iff_ne.2 (by omega)
 have k4 : (bt s 0 == 116) = false := beq_eq_false_iff_ne.2 (by omega)
 have k5 : (bt s 0 == 102) = false := beq_eq_false_iff_ne.2 (by omega)
 have k6 : (bt s 0 == 110) = false := beq_eq_false_iff_ne.2 (by omega)
 have hw : IntKind.i64.wrap (d + 1) = d + 1 := by rw [IntKind.wrap_i64]; omega
 have hd1 : decide (300 < d + 1) = false := decide_eq_false (by omega)
 have HR := Aside0.mk hr
 clear hr hc hd h0
 go_enter Tryd.func49, Tryd.ntmps49
 go_wp2_with (first
  | (go_at_call 75; refine (num_err HR.out _).mono ?_; rintro e w1 ⟨et, ep, rfl, hb⟩; have HB := Aside0.mk hb; clear hb)
  | (go_at_call 41; refine (errNew _ _).mono ?_; rintro e w2 ⟨et2, ep2, rfl, hb2⟩))
 go_ret3
 exact Post.err (Ch.of_below (HB.out.trans (hb2.mono HB.out.size)) _)
/-- A Value of its own block. -/
theorem boxed {W W1 : World} {g co n N : Nat} {Bo : Option (Nat × Nat)} {k : Int} (hC : CS zc 86 W g co Bo n) (hb : Below W.heap.size W W1) (hN : W.heap.size ≤ N) (hh : W1.heap[N]? = some (.cells #[.slice none 0 0, .bool false, .slice none 0 0, .string ByteArray.empty, .int .i64 k] 86 (0, 0))) (h1 : k ≠ 1) (h2 : k ≠ 2) :
  PS W W1 g co Bo n Bo n ∧ Lies W1 (Nw W W1 g Bo n Bo n) N 0 (lit k ByteArray.empty) := by
 have hlt : N < W1.heap.size := (Array.getElem?_eq_some_iff.1 hh).1
 have hg := hC.glt
 have hnw : ∀ j, Nw W W1 g Bo n Bo n N j := fun j => ⟨fun ho => by have := ho.1; omega, hlt, by omega, fun c e => by have := hC.blt e; omega⟩
 refine ⟨(PS.refl hC).below hb, .leaf h1 h2 ?_ (hnw _) ?_ (hnw _) ⟨_, _, hh⟩⟩
 ·rw [cell_of_row W1 N _ _ _ (0, 0) hh]; rfl
 rw [cell_of_row W1 N _ _ _ (0, 0) hh]; rfl
set_option maxHeartbeats 2000000 in
set_option maxRecDepth 100000 in
theorem val_true_ok (s : ByteArray) (d : Int) (h : s.size ≠ 0) (h0 : 0 ≤ d) (hd : d < 300) (hc : bt s 0 = 116) (h4 : 4 ≤ s.size) (hq : (s.extract 0 4).toList = [116, 114, 117, 101]) (W : World) (g co : Nat) (Bo : Option (Nat × Nat)) (n : Nat) (hC : CS zc 86 W g co Bo n) :
  Calls Tryd.prog 49 #[.pointer (some ⟨g, co, none⟩), .string s, .int .i64 d] W fun e W' => ∃ N : Nat, e = .returned (.tuple #[.pointer (some ⟨N, 0, none⟩), .string (rest s 4), .nilIface]) ∧ PS W W' g co Bo n Bo n ∧ Lies W' (Nw W W' g Bo n Bo n) N 0 (lit 5 ByteArray.empty) := by
 obtain ⟨e0, e1, e2, e3, e4⟩ := nul h
 have k1 : (bt s 0 == 123) = false := beq_eq_false_iff_ne.2 (by omega)
 have k2 : (bt s 0 == 91) = false := beq_eq_false_iff_ne.2 (by omega)
 have k3 : (bt s 0 == 34) = false := beq_eq_false_iff_ne.2 (by omega)
 have k4 : (bt s 0 == 116) = true := beq_iff_eq.2 hc
 have hw : IntKind.i64.wrap (d + 1) = d + 1 := by rw [IntKind.wrap_i64]; omega
 have hd1 : decide (300 < d + 1) = false := decide_eq_false (by omega)
 have hl1 : decide ((s.size : Int) < 4) = false := decide_eq_false (by omega)
 have hcr := cutr s 4 4 rfl (by omega)
 have hch := cuth s 4 4 rfl (by omega)
 have hql : ((s.extract 0 4).toList == ([116, 114, 117, 101] : List UInt8)) = true := beq_iff_eq.2 hq
 have HC := Aside0.mk hC
 clear hC hc hd h0 hq
 go_enter Tryd.func49, Tryd.ntmps49
 go_wp2
 go_region
 go_wp2
 go_ret3
 exact ⟨W.heap.size, rfl, boxed HC.out (pw_below_drewN (below_alloc (Below.refl _ _) _) _) (Nat.le_refl _) (heap_alloc_new W _) (by decide) (by decide)⟩
set_option maxHeartbeats 2000000 in
set_option maxRecDepth 100000 in
theorem val_false_ok (s : ByteArray) (d : Int) (h : s.size ≠ 0) (h0 : 0 ≤ d) (hd : d < 300) (hc : bt s 0 = 102) (h4 : 5 ≤ s.size) (hq : (s.extract 0 5).toList = [102, 97, 108, 115, 101]) (W : World) (g co : Nat) (Bo : Option (Nat × Nat)) (n : Nat) (hC : CS zc 86 W g co Bo n) :
  Calls Tryd.prog 49 #[.pointer (some ⟨g, co, none⟩), .string s, .int .i64 d] W fun e W' => ∃ N : Nat, e = .returned (.tuple #[.pointer (some ⟨N, 0, none⟩), .string (rest s 5), .nilIface]) ∧ PS W W' g co Bo n Bo n ∧ Lies W' (Nw W W' g Bo n Bo n) N 0 (lit 6 ByteArray.empty) := by
 obtain ⟨e0, e1, e2, e3, e4⟩ := nul h
 have k1 : (bt s 0 == 123) = false := beq_eq_false_iff_ne.2 (by omega)
 have k2 : (bt s 0 == 91) = false := beq_eq_false_iff_ne.2 (by omega)
 have k3 : (bt s 0 == 34) = false := beq_eq_false_iff_ne.2 (by omega)
 have k10 : (bt s 0 == 116) = false := beq_eq_false_iff_ne.2 (by omega)
 have k4 : (bt s 0 == 102) = true := beq_iff_eq.2 hc
 have hw : IntKind.i64.wrap (d + 1) = d + 1 := by rw [IntKind.wrap_i64]; omega
 have hd1 : decide (300 < d + 1) = false := decide_eq_false (by omega)
 have hl1 : decide ((s.size : Int) < 5) = false := decide_eq_false (by omega)
 have hcr := cutr s 5 5 rfl (by omega)
 have hch := cuth s 5 5 rfl (by omega)
 have hql : ((s.extract 0 5).toList == ([102, 97, 108, 115, 101] : List UInt8)) = true := beq_iff_eq.2 hq
 have HC := Aside0.mk hC
 clear hC hc hd h0 hq
 go_enter Tryd.func49, Tryd.ntmps49
 go_wp2
 go_region
 go_wp2
 go_ret3
 exact ⟨W.heap.size, rfl, boxed HC.out (pw_below_drewN (below_alloc (Below.refl _ _) _) _) (Nat.le_refl _) (heap_alloc_new W _) (by decide) (by decide)⟩
set_option maxHeartbeats 2000000 in
set_option maxRecDepth 100000 in
theorem val_null_ok (s : ByteArray) (d : Int) (h : s.size ≠ 0) (h0 : 0 ≤ d) (hd : d < 300) (hc : bt s 0 = 110) (h4 : 4 ≤ s.size) (hq : (s.extract 0 4).toList = [110, 117, 108, 108]) (W : World) (g co : Nat) (Bo : Option (Nat × Nat)) (n : Nat) (hC : CS zc 86 W g co Bo n) :
  Calls Tryd.prog 49 #[.pointer (some ⟨g, co, none⟩), .string s, .int .i64 d] W fun e W' => ∃ N : Nat, e = .returned (.tuple #[.pointer (some ⟨N, 0, none⟩), .string (rest s 4), .nilIface]) ∧ PS W W' g co Bo n Bo n ∧ Lies W' (Nw W W' g Bo n Bo n) N 0 (lit 0 ByteArray.empty) := by
 obtain ⟨e0, e1, e2, e3, e4⟩ := nul h
 have k1 : (bt s 0 == 123) = false := beq_eq_false_iff_ne.2 (by omega)
 have k2 : (bt s 0 == 91) = false := beq_eq_false_iff_ne.2 (by omega)
 have k3 : (bt s 0 == 34) = false := beq_eq_false_iff_ne.2 (by omega)
 have k10 : (bt s 0 == 116) = false := beq_eq_false_iff_ne.2 (by omega)
 have k11 : (bt s 0 == 102) = false := beq_eq_false_iff_ne.2 (by omega)
 have k4 : (bt s 0 == 110) = true := beq_iff_eq.2 hc
 have hw : IntKind.i64.wrap (d + 1) = d + 1 := by rw [IntKind.wrap_i64]; omega
 have hd1 : decide (300 < d + 1) = false := decide_eq_false (by omega)
 have hl1 : decide ((s.size : Int) < 4) = false := decide_eq_false (by omega)
 have hcr := cutr s 4 4 rfl (by omega)
 have hch := cuth s 4 4 rfl (by omega)
 have hql : ((s.extract 0 4).toList == ([110, 117, 108, 108] : List UInt8)) = true := beq_iff_eq.2 hq
 have HC := Aside0.mk hC
 clear hC hc hd h0 hq
 go_enter Tryd.func49, Tryd.ntmps49
 go_wp2
 go_region
 go_wp2
 go_ret3
 exact ⟨W.heap.size, rfl, boxed HC.out (pw_below_drewN (below_alloc (Below.refl _ _) _) _) (Nat.le_refl _) (heap_alloc_new W _) (by decide) (by decide)⟩
set_option maxHeartbeats 2000000 in
set_option maxRecDepth 100000 in
theorem val_true_short (s : ByteArray) (d : Int) (h : s.size ≠ 0) (h0 : 0 ≤ d) (hd : d < 300) (hc : bt s 0 = 116) (h4 : s.size < 4) (W : World) (g co : Nat) (Bo : Option (Nat × Nat)) (n m : Nat) :
  Calls Tryd.prog 49 #[.pointer (some ⟨g, co, none⟩), .string s, .int .i64 d] W (Post W g co Bo n m none) := by
 obtain ⟨e0, e1, e2, e3, e4⟩ := nul h
 have k1 : (bt s 0 == 123) = false := beq_eq_false_iff_ne.2 (by omega)
 have k2 : (bt s 0 == 91) = false := beq_eq_false_iff_ne.2 (by omega)
 have k3 : (bt s 0 == 34) = false := beq_eq_false_iff_ne.2 (by omega)
 have k4 : (bt s 0 == 116) = true := beq_iff_eq.2 hc
 have hw : IntKind.i64.wrap (d + 1) = d + 1 := by rw [IntKind.wrap_i64]; omega
 have hd1 : decide (300 < d + 1) = false := decide_eq_false (by omega)
 have hl1 : decide ((s.size : Int) < 4) = true := decide_eq_true (by omega)
 clear hc hd h0
 go_enter Tryd.func49, Tryd.ntmps49
 go_wp2_with (go_at_call 41; refine (errNew _ _).mono ?_; rintro e w1 ⟨et, ep, rfl, hb⟩)
 go_ret3
 exact Post.err (Ch.of_below hb _)
set_option maxHeartbeats 2000000 in
set_option maxRecDepth 100000 in
theorem val_true_diff (s : ByteArray) (d : Int) (h : s.size ≠ 0) (h0 : 0 ≤ d) (hd : d < 300) (hc : bt s 0 = 116) (h4 : 4 ≤ s.size) (hq : (s.extract 0 4).toList ≠ [116, 114, 117, 101]) (W : World) (g co : Nat) (Bo : Option (Nat × Nat)) (n m : Nat) :
  Calls Tryd.prog 49 #[.pointer (some ⟨g, co, none⟩), .string s, .int .i64 d] W (Post W g co Bo n m none) := by
 obtain ⟨e0, e1, e2, e3, e4⟩ := nul h
 have k1 : (bt s 0 == 123) = false := beq_eq_false_iff_ne.2 (by omega)
 have k2 : (bt s 0 == 91) = false := beq_eq_false_iff_ne.2 (by omega)
 have k3 : (bt s 0 == 34) = false := beq_eq_false_iff_ne.2 (by omega)
 have k4 : (bt s 0 == 116) = true := beq_iff_eq.2 hc
 have hw : IntKind.i64.wrap (d + 1) = d + 1 := by rw [IntKind.wrap_i64]; omega
 have hd1 : decide (300 < d + 1) = false := decide_eq_false (by omega)
 have hl1 : decide ((s.size : Int) < 4) = false := decide_eq_false (by omega)
 have hch := cuth s 4 4 rfl (by omega)
 have hql : ((s.extract 0 4).toList == ([116, 114, 117, 101] : List UInt8)) = false := beq_eq_false_iff_ne.2 hq
 clear hc hd h0
 go_enter Tryd.func49, Tryd.ntmps49
 go_wp2_with (go_at_call 41; refine (errNew _ _).mono ?_; rintro e w1 ⟨et, ep, rfl, hb⟩)
 go_ret3
 exact Post.err (Ch.of_below hb _)
set_option maxHeartbeats 2000000 in
set_option maxRecDepth 100000 in
theorem val_false_short (s : ByteArray) (d : Int) (h : s.size ≠ 0) (h0 : 0 ≤ d) (hd : d < 300) (hc : bt s 0 = 102) (h4 : s.size < 5) (W : World) (g co : Nat) (Bo : Option (Nat × Nat)) (n m : Nat) :
  Calls Tryd.prog 49 #[.pointer (some ⟨g, co, none⟩), .string s, .int .i64 d] W (Post W g co Bo n m none) := by
 obtain ⟨e0, e1, e2, e3, e4⟩ := nul h
 have k1 : (bt s 0 == 123) = false := beq_eq_false_iff_ne.2 (by omega)
 have k2 : (bt s 0 == 91) = false := beq_eq_false_iff_ne.2 (by omega)
 have k3 : (bt s 0 == 34) = false := beq_eq_false_iff_ne.2 (by omega)
 have k10 : (bt s 0 == 116) = false := beq_eq_false_iff_ne.2 (by omega)
 have k4 : (bt s 0 == 102) = true := beq_iff_eq.2 hc
 have hw : IntKind.i64.wrap (d + 1) = d + 1 := by rw [IntKind.wrap_i64]; omega
 have hd1 : decide (300 < d + 1) = false := decide_eq_false (by omega)
 have hl1 : decide ((s.size : Int) < 5) = true := decide_eq_true (by omega)
 clear hc hd h0
 go_enter Tryd.func49, Tryd.ntmps49
 go_wp2_with (go_at_call 41; refine (errNew _ _).mono ?_; rintro e w1 ⟨et, ep, rfl, hb⟩)
 go_ret3
 exact Post.err (Ch.of_below hb _)
set_option maxHeartbeats 2000000 in
set_option maxRecDepth 100000 in
theorem val_false_diff (s : ByteArray) (d : Int) (h : s.size ≠ 0) (h0 : 0 ≤ d) (hd : d < 300) (hc : bt s 0 = 102) (h4 : 5 ≤ s.size) (hq : (s.extract 0 5).toList ≠ [102, 97, 108, 115, 101]) (W : World) (g co : Nat) (Bo : Option (Nat × Nat)) (n m : Nat) :
  Calls Tryd.prog 49 #[.pointer (some ⟨g, co, none⟩), .string s, .int .i64 d] W (Post W g co Bo n m none) := by
 obtain ⟨e0, e1, e2, e3, e4⟩ := nul h
 have k1 : (bt s 0 == 123) = false := beq_eq_false_iff_ne.2 (by omega)
 have k2 : (bt s 0 == 91) = false := beq_eq_false_iff_ne.2 (by omega)
 have k3 : (bt s 0 == 34) = false := beq_eq_false_iff_ne.2 (by omega)
 have k10 : (bt s 0 == 116) = false := beq_eq_false_iff_ne.2 (by omega)
 have k4 : (bt s 0 == 102) = true := beq_iff_eq.2 hc
 have hw : IntKind.i64.wrap (d + 1) = d + 1 := by rw [IntKind.wrap_i64]; omega
 have hd1 : decide (300 < d + 1) = false := decide_eq_false (by omega)
 have hl1 : decide ((s.size : Int) < 5) = false := decide_eq_false (by omega)
 have hch := cuth s 5 5 rfl (by omega)
 have hql : ((s.extract 0 5).toList == ([102, 97, 108, 115, 101] : List UInt8)) = false := beq_eq_false_iff_ne.2 hq
 clear hc hd h0
 go_enter Tryd.func49, Tryd.ntmps49
 go_wp2_with (go_at_call 41; refine (errNew _ _).mono ?_; rintro e w1 ⟨et, ep, rfl, hb⟩)
 go_ret3
 exact Post.err (Ch.of_below hb _)
set_option maxHeartbeats 2000000 in
set_option maxRecDepth 100000 in
theorem val_n_lt3 (k : Nat) (s : ByteArray) (d : Int) (h : s.size ≠ 0) (h0 : 0 ≤ d) (hd : d < 300) (hc : bt s 0 = 110) (h4 : s.size < 3) (W : World) (g co : Nat) (Bo : Option (Nat × Nat)) (n m : Nat) :
  Calls Tryd.prog 49 #[.pointer (some ⟨g, co, none⟩), .string s, .int .i64 d] W (Post W g co Bo n m none) := by
 obtain ⟨e0, e1, e2, e3, e4⟩ := nul h
 have k1 : (bt s 0 == 123) = false := beq_eq_false_iff_ne.2 (by omega)
 have k2 : (bt s 0 == 91) = false := beq_eq_false_iff_ne.2 (by omega)
 have k3 : (bt s 0 == 34) = false := beq_eq_false_iff_ne.2 (by omega)
 have k10 : (bt s 0 == 116) = false := beq_eq_false_iff_ne.2 (by omega)
 have k11 : (bt s 0 == 102) = false := beq_eq_false_iff_ne.2 (by omega)
 have k4 : (bt s 0 == 110) = true := beq_iff_eq.2 hc
 have hw : IntKind.i64.wrap (d + 1) = d + 1 := by rw [IntKind.wrap_i64]; omega
 have hd1 : decide (300 < d + 1) = false := decide_eq_false (by omega)
 have hl1 : decide ((s.size : Int) < 4) = true := decide_eq_true (by omega)
 have hl3 : decide (3 ≤ (s.size : Int)) = false := decide_eq_false (by omega)
 clear hc hd h0
 go_enter Tryd.func49, Tryd.ntmps49
 go_wp2_with (go_at_call 41; refine (errNew _ _).mono ?_; rintro e w1 ⟨et, ep, rfl, hb⟩)
 go_ret3
 exact Post.err (Ch.of_below hb _)
set_option maxHeartbeats 2000000 in
set_option maxRecDepth 100000 in
theorem val_n_short_no (k : Nat) (s : ByteArray) (d : Int) (h : s.size ≠ 0) (h0 : 0 ≤ d) (hd : d < 300) (hc : bt s 0 = 110) (h3 : 3 ≤ s.size) (h4 : s.size < 4) (hf : fastjson_zzFold.f k (s.extract 0 3) (⟨#[110, 97, 110]⟩ : ByteArray) = some false) (W : World) (g co : Nat) (Bo : Option (Nat × Nat)) (n m : Nat) :
  Calls Tryd.prog 49 #[.pointer (some ⟨g, co, none⟩), .string s, .int .i64 d] W (Post W g co Bo n m none) := by
 obtain ⟨e0, e1, e2, e3, e4⟩ := nul h
 have k1 : (bt s 0 == 123) = false := beq_eq_false_iff_ne.2 (by omega)
 have k2 : (bt s 0 == 91) = false := beq_eq_false_iff_ne.2 (by omega)
 have k3 : (bt s 0 == 34) = false := beq_eq_false_iff_ne.2 (by omega)
 have k10 : (bt s 0 == 116) = false := beq_eq_false_iff_ne.2 (by omega)
 have k11 : (bt s 0 == 102) = false := beq_eq_false_iff_ne.2 (by omega)
 have k4 : (bt s 0 == 110) = true := beq_iff_eq.2 hc
 have hw : IntKind.i64.wrap (d + 1) = d + 1 := by rw [IntKind.wrap_i64]; omega
 have hd1 : decide (300 < d + 1) = false := decide_eq_false (by omega)
 have hl1 : decide ((s.size : Int) < 4) = true := decide_eq_true (by omega)
 have hl3 : decide (3 ≤ (s.size : Int)) = true := decide_eq_true (by omega)
 have hch := cuth s 3 3 rfl (by omega)
 have HF := Aside0.mk hf
 clear hc hd h0 hf
 go_enter Tryd.func49, Tryd.ntmps49
 go_wp2_with (first
  | (go_at_call 74; refine (fastjson_zzFold.calls k (s.extract 0 3) (⟨#[110, 97, 110]⟩ : ByteArray) false _ HF.out).mono ?_; rintro e w1 ⟨rfl, ⟨nd, rfl⟩⟩; have HB := Aside0.mk (pw_below_drewN (Below.refl W.heap.size W) nd))
  | (go_at_call 41; refine (errNew _ _).mono ?_; rintro e w2 ⟨et, ep, rfl, hb⟩))
 go_ret3
 exact Post.err (Ch.of_below (HB.out.trans (hb.mono HB.out.size)) _)
set_option maxHeartbeats 2000000 in
set_option maxRecDepth 100000 in
theorem val_n_short_yes (k : Nat) (s : ByteArray) (d : Int) (h : s.size ≠ 0) (h0 : 0 ≤ d) (hd : d < 300) (hc : bt s 0 = 110) (h3 : 3 ≤ s.size) (h4 : s.size < 4) (hf : fastjson_zzFold.f k (s.extract 0 3) (⟨#[110, 97, 110]⟩ : ByteArray) = some true) (W : World) (g co : Nat) (Bo : Option (Nat × Nat)) (n : Nat) (hC : CS zc 86 W g co Bo n) (hn : n ≤ 200000) :
  Calls Tryd.prog 49 #[.pointer (some ⟨g, co, none⟩), .string s, .int .i64 d] W fun e W' => ∃ (B c : Nat), e = .returned (.tuple #[.pointer (some ⟨B, n * 5, none⟩), .string (rest s 3), .nilIface]) ∧ PS W W' g co Bo n (some (B, c)) (n + 1) ∧ Lies W' (Nw W W' g Bo n (some (B, c)) (n + 1)) B (n * 5) (lit 4 (s.extract 0 3)) := by
 obtain ⟨e0, e1, e2, e3, e4⟩ := nul h
 have k1 : (bt s 0 == 123) = false := beq_eq_false_iff_ne.2 (by omega)
 have k2 : (bt s 0 == 91) = false := beq_eq_false_iff_ne.2 (by omega)
 have k3 : (bt s 0 == 34) = false := beq_eq_false_iff_ne.2 (by omega)
 have k10 : (bt s 0 == 116) = false := beq_eq_false_iff_ne.2 (by omega)
 have k11 : (bt s 0 == 102) = false := beq_eq_false_iff_ne.2 (by omega)
 have k4 : (bt s 0 == 110) = true := beq_iff_eq.2 hc
 have hw : IntKind.i64.wrap (d + 1) = d + 1 := by rw [IntKind.wrap_i64]; omega
 have hd1 : decide (300 < d + 1) = false := decide_eq_false (by omega)
 have hl1 : decide ((s.size : Int) < 4) = true := decide_eq_true (by omega)
 have hl3 : decide (3 ≤ (s.size : Int)) = true := decide_eq_true (by omega)
 have hch := cuth s 3 3 rfl (by omega)
 have hcr := cutr s 3 3 rfl (by omega)
 have HF := Aside0.mk hf
 have HC := Aside0.mk hC
 have HN : Aside0 (n ≤ 1000000) := ⟨by omega⟩
 clear hf hC hc
 obtain ⟨q, hq_⟩ : ∃ q, q = n * 5 := ⟨_, rfl⟩
 have HQ := Aside0.mk hq_
 rw [← hq_]
 clear hq_ hn hd h0
 go_enter Tryd.func49, Tryd.ntmps49
 go_wp2_with (first
  | (go_at_call 74; refine (fastjson_zzFold.calls k (s.extract 0 3) (⟨#[110, 97, 110]⟩ : ByteArray) true _ HF.out).mono ?_; rintro e w1 ⟨rfl, ⟨nd, rfl⟩⟩; have HP := Aside0.mk ((PS.refl HC.out).below (pw_below_drewN (Below.refl W.heap.size W) nd)))
  | (go_at_call 39; refine (getV g co n Bo _ HP.out.cs HN.out).mono ?_; rintro e w2 ⟨B, c, rfl, hv⟩; have HV := Aside0.mk hv; obtain ⟨c4, f4, c3, f3, hlt⟩ := newv_at hv; clear hv; rw [← HQ.out] at c4 f4 c3 f3 ⊢))
 go_quiet (fail)
 go_wp2
 go_ret3
 have hd3 := leaf_done (m := nq) (k := 4) (s := s.extract 0 3) HP.out HV.out (by decide) (by decide)
 rw [← HQ.out] at hd3
 exact ⟨B, c, rfl, hd3⟩
set_option maxHeartbeats 2000000 in
set_option maxRecDepth 100000 in
theorem val_n_diff_no (k : Nat) (s : ByteArray) (d : Int) (h : s.size ≠ 0) (h0 : 0 ≤ d) (hd : d < 300) (hc : bt s 0 = 110) (h4 : 4 ≤ s.size) (hq : (s.extract 0 4).toList ≠ [110, 117, 108, 108]) (hf : fastjson_zzFold.f k (s.extract 0 3) (⟨#[110, 97, 110]⟩ : ByteArray) = some false) (W : World) (g co : Nat) (Bo : Option (Nat × Nat)) (n m : Nat) :
  Calls Tryd.prog 49 #[.pointer (some ⟨g, co, none⟩), .string s, .int .i64 d] W (Post W g co Bo n m none) := by
 obtain ⟨e0, e1, e2, e3, e4⟩ := nul h
 have k1 : (bt s 0 == 123) = false := beq_eq_false_iff_ne.2 (by omega)
 have k2 : (bt s 0 == 91) = false := beq_eq_false_iff_ne.2 (by omega)
 have k3 : (bt s 0 == 34) = false := beq_eq_false_iff_ne.2 (by omega)
 have k10 : (bt s 0 == 116) = false := beq_eq_false_iff_ne.2 (by omega)
 have k11 : (bt s 0 == 102) = false := beq_eq_false_iff_ne.2 (by omega)
 have k4 : (bt s 0 == 110) = true := beq_iff_eq.2 hc
 have hw : IntKind.i64.wrap (d + 1) = d + 1 := by rw [IntKind.wrap_i64]; omega
 have hd1 : decide (300 < d + 1) = false := decide_eq_false (by omega)
 have hl1 : decide ((s.size : Int) < 4) = false := decide_eq_false (by omega)
 have hch4 := cuth s 4 4 rfl (by omega)
 have hql : ((s.extract 0 4).toList == ([110, 117, 108, 108] : List UInt8)) = false := beq_eq_false_iff_ne.2 hq
 have hl3 : decide (3 ≤ (s.size : Int)) = true := decide_eq_true (by omega)
 have hch := cuth s 3 3 rfl (by omega)
 have HF := Aside0.mk hf
 clear hc hd h0 hf
 go_enter Tryd.func49, Tryd.ntmps49
 go_wp2_with (first
  | (go_at_call 74; refine (fastjson_zzFold.calls k (s.extract 0 3) (⟨#[110, 97, 110]⟩ : ByteArray) false _ HF.out).mono ?_; rintro e w1 ⟨rfl, ⟨nd, rfl⟩⟩; have HB := Aside0.mk (pw_below_drewN (Below.refl W.heap.size W) nd))
  | (go_at_call 41; refine (errNew _ _).mono ?_; rintro e w2 ⟨et, ep, rfl, hb⟩))
 go_ret3
 exact Post.err (Ch.of_below (HB.out.trans (hb.mono HB.out.size)) _)
set_option maxHeartbeats 2000000 in
set_option maxRecDepth 100000 in
theorem val_n_diff_yes (k : Nat) (s : ByteArray) (d : Int) (h : s.size ≠ 0) (h0 : 0 ≤ d) (hd : d < 300) (hc : bt s 0 = 110) (h4 : 4 ≤ s.size) (hq : (s.extract 0 4).toList ≠ [110, 117, 108, 108]) (hf : fastjson_zzFold.f k (s.extract 0 3) (⟨#[110, 97, 110]⟩ : ByteArray) = some true) (W : World) (g co : Nat) (Bo : Option (Nat × Nat)) (n : Nat) (hC : CS zc 86 W g co Bo n) (hn : n ≤ 200000) :
  Calls Tryd.prog 49 #[.pointer (some ⟨g, co, none⟩), .string s, .int .i64 d] W fun e W' => ∃ (B c : Nat), e = .returned (.tuple #[.pointer (some ⟨B, n * 5, none⟩), .string (rest s 3), .nilIface]) ∧ PS W W' g co Bo n (some (B, c)) (n + 1) ∧ Lies W' (Nw W W' g Bo n (some (B, c)) (n + 1)) B (n * 5) (lit 4 (s.extract 0 3)) := by
 obtain ⟨e0, e1, e2, e3, e4⟩ := nul h
 have k1 : (bt s 0 == 123) = false := beq_eq_false_iff_ne.2 (by omega)
 have k2 : (bt s 0 == 91) = false := beq_eq_false_iff_ne.2 (by omega)
 have k3 : (bt s 0 == 34) = false := beq_eq_false_iff_ne.2 (by omega)
 have k10 : (bt s 0 == 116) = false := beq_eq_false_iff_ne.2 (by omega)
 have k11 : (bt s 0 == 102) = false := beq_eq_false_iff_ne.2 (by omega)
 have k4 : (bt s 0 == 110) = true := beq_iff_eq.2 hc
 have hw : IntKind.i64.wrap (d + 1) = d + 1 := by rw [IntKind.wrap_i64]; omega
 have hd1 : decide (300 < d + 1) = false := decide_eq_false (by omega)
 have hl1 : decide ((s.size : Int) < 4) = false := decide_eq_false (by omega)
 have hch4 := cuth s 4 4 rfl (by omega)
 have hql : ((s.extract 0 4).toList == ([110, 117, 108, 108] : List UInt8)) = false := beq_eq_false_iff_ne.2 hq
 have hl3 : decide (3 ≤ (s.size : Int)) = true := decide_eq_true (by omega)
 have hch := cuth s 3 3 rfl (by omega)
 have hcr := cutr s 3 3 rfl (by omega)
 have HF := Aside0.mk hf
 have HC := Aside0.mk hC
 have HN : Aside0 (n ≤ 1000000) := ⟨by omega⟩
 clear hf hC hc
 obtain ⟨q, hq_⟩ : ∃ q, q = n * 5 := ⟨_, rfl⟩
 have HQ := Aside0.mk hq_
 rw [← hq_]
 clear hq_ hn hd h0
 go_enter Tryd.func49, Tryd.ntmps49
 go_wp2_with (first
  | (go_at_call 74; refine (fastjson_zzFold.calls k (s.extract 0 3) (⟨#[110, 97, 110]⟩ : ByteArray) true _ HF.out).mono ?_; rintro e w1 ⟨rfl, ⟨nd, rfl⟩⟩; have HP := Aside0.mk ((PS.refl HC.out).below (pw_below_drewN (Below.refl W.heap.size W) nd)))
  | (go_at_call 39; refine (getV g co n Bo _ HP.out.cs HN.out).mono ?_; rintro e w2 ⟨B, c, rfl, hv⟩; have HV := Aside0.mk hv; obtain ⟨c4, f4, c3, f3, hlt⟩ := newv_at hv; clear hv; rw [← HQ.out] at c4 f4 c3 f3 ⊢))
 go_quiet (fail)
 go_wp2
 go_ret3
 have hd3 := leaf_done (m := nq) (k := 4) (s := s.extract 0 3) HP.out HV.out (by decide) (by decide)
 rw [← HQ.out] at hd3
 exact ⟨B, c, rfl, hd3⟩
set_option maxHeartbeats 2000000 in
set_option maxRecDepth 100000 in
theorem val_obj_none (k : Nat) (IH : OC k) (s : ByteArray) (d : Int) (h : s.size ≠ 0) (h0 : 0 ≤ d) (hd : d < 300) (hc : bt s 0 = 123) (hr : pO k (rest s 1) (d + 1) = some none) (W : World) (g co : Nat) (Bo : Option (Nat × Nat)) (n : Nat) (hC : CS zc 86 W g co Bo n) (hn : n + s.size ≤ 200000) :
  Calls Tryd.prog 49 #[.pointer (some ⟨g, co, none⟩), .string s, .int .i64 d] W (Post W g co Bo n (n + s.size) none) := by
 obtain ⟨e0, e1, e2, e3, e4⟩ := nul h
 have k4 : (bt s 0 == 123) = true := beq_iff_eq.2 hc
 have hw : IntKind.i64.wrap (d + 1) = d + 1 := by rw [IntKind.wrap_i64]; omega
 have hd1 : decide (300 < d + 1) = false := decide_eq_false (by omega)
 have hcs := cutr s 1 1 rfl (by omega)
 have hsz : n + (rest s 1).size + 1 = n + s.size := by rw [size_rest]; omega
 have HC := Aside0.mk (IH (rest s 1) (d + 1) _ hr (by omega) (by omega) W g co Bo n hC (by omega))
 rw [hsz] at HC
 clear hr hC hc h0 hd hn hsz IH
 go_enter Tryd.func49, Tryd.ntmps49
 go_wp2_with (first
  | (go_at_call 71; refine HC.out.mono ?_; rintro e w1 ⟨t1, et, ep, rfl, hb⟩; have HB := Aside0.mk hb; clear hb)
  | (go_at_call 41; refine (errNew _ _).mono ?_; rintro e w2 ⟨et2, ep2, rfl, hb2⟩))
 go_ret3
 exact Post.err (HB.out.comp (Ch.of_below hb2 (fun _ _ => False)) (fun _ _ _ h => h.elim))
set_option maxHeartbeats 2000000 in
set_option maxRecDepth 100000 in
theorem val_obj_some (k : Nat) (IH : OC k) (s : ByteArray) (d : Int) (x : FT × ByteArray) (h : s.size ≠ 0) (h0 : 0 ≤ d) (hd : d < 300) (hc : bt s 0 = 123) (hr : pO k (rest s 1) (d + 1) = some (some x)) (W : World) (g co : Nat) (Bo : Option (Nat × Nat)) (n : Nat) (hC : CS zc 86 W g co Bo n) (hn : n + s.size ≤ 200000) :
  Calls Tryd.prog 49 #[.pointer (some ⟨g, co, none⟩), .string s, .int .i64 d] W (Post W g co Bo n (n + s.size) (some x)) := by
 obtain ⟨e0, e1, e2, e3, e4⟩ := nul h
 have k4 : (bt s 0 == 123) = true := beq_iff_eq.2 hc
 have hw : IntKind.i64.wrap (d + 1) = d + 1 := by rw [IntKind.wrap_i64]; omega
 have hd1 : decide (300 < d + 1) = false := decide_eq_false (by omega)
 have hcs := cutr s 1 1 rfl (by omega)
 have hsz : n + (rest s 1).size + 1 = n + s.size := by rw [size_rest]; omega
 have HC := Aside0.mk (IH (rest s 1) (d + 1) _ hr (by omega) (by omega) W g co Bo n hC (by omega))
 rw [hsz] at HC
 clear hr hC hc h0 hd hn hsz IH
 go_enter Tryd.func49, Tryd.ntmps49
 go_wp2_with (go_at_call 71; refine HC.out.mono ?_; rintro e w1 ⟨b1, o1, B1, n1, rfl, hb⟩; have HB := Aside0.mk hb; clear hb)
 go_ret3
 exact ⟨b1, o1, B1, n1, rfl, HB.out⟩
set_option maxHeartbeats 2000000 in
set_option maxRecDepth 100000 in
theorem val_arr_none (k : Nat) (IH : AC k) (s : ByteArray) (d : Int) (h : s.size ≠ 0) (h0 : 0 ≤ d) (hd : d < 300) (hc : bt s 0 = 91) (hr : pA k (rest s 1) (d + 1) = some none) (W : World) (g co : Nat) (Bo : Option (Nat × Nat)) (n : Nat) (hC : CS zc 86 W g co Bo n) (hn : n + s.size ≤ 200000) :
  Calls Tryd.prog 49 #[.pointer (some ⟨g, co, none⟩), .string s, .int .i64 d] W (Post W g co Bo n (n + s.size) none) := by
 obtain ⟨e0, e1, e2, e3, e4⟩ := nul h
 have k10 : (bt s 0 == 123) = false := beq_eq_false_iff_ne.2 (by omega)
 have k4 : (bt s 0 == 91) = true := beq_iff_eq.2 hc
 have hw : IntKind.i64.wrap (d + 1) = d + 1 := by rw [IntKind.wrap_i64]; omega
 have hd1 : decide (300 < d + 1) = false := decide_eq_false (by omega)
 have hcs := cutr s 1 1 rfl (by omega)
 have hsz : n + (rest s 1).size + 1 = n + s.size := by rw [size_rest]; omega
 have HC := Aside0.mk (IH (rest s 1) (d + 1) _ hr (by omega) (by omega) W g co Bo n hC (by omega))
 rw [hsz] at HC
 clear hr hC hc h0 hd hn hsz IH
 go_enter Tryd.func49, Tryd.ntmps49
 go_wp2_with (first
  | (go_at_call 72; refine HC.out.mono ?_; rintro e w1 ⟨t1, et, ep, rfl, hb⟩; have HB := Aside0.mk hb; clear hb)
  | (go_at_call 41; refine (errNew _ _).mono ?_; rintro e w2 ⟨et2, ep2, rfl, hb2⟩))
 go_ret3
 exact Post.err (HB.out.comp (Ch.of_below hb2 (fun _ _ => False)) (fun _ _ _ h => h.elim))
set_option maxHeartbeats 2000000 in
set_option maxRecDepth 100000 in
theorem val_arr_some (k : Nat) (IH : AC k) (s : ByteArray) (d : Int) (x : FT × ByteArray) (h : s.size ≠ 0) (h0 : 0 ≤ d) (hd : d < 300) (hc : bt s 0 = 91) (hr : pA k (rest s 1) (d + 1) = some (some x)) (W : World) (g co : Nat) (Bo : Option (Nat × Nat)) (n : Nat) (hC : CS zc 86 W g co Bo n) (hn : n + s.size ≤ 200000) :
  Calls Tryd.prog 49 #[.pointer (some ⟨g, co, none⟩), .string s, .int .i64 d] W (Post W g co Bo n (n + s.size) (some x)) := by
 obtain ⟨e0, e1, e2, e3, e4⟩ := nul h
 have k10 : (bt s 0 == 123) = false := beq_eq_false_iff_ne.2 (by omega)
 have k4 : (bt s 0 == 91) = true := beq_iff_eq.2 hc
 have hw : IntKind.i64.wrap (d + 1) = d + 1 := by rw [IntKind.wrap_i64]; omega
 have hd1 : decide (300 < d + 1) = false := decide_eq_false (by omega)
 have hcs := cutr s 1 1 rfl (by omega)
 have hsz : n + (rest s 1).size + 1 = n + s.size := by rw [size_rest]; omega
 have HC := Aside0.mk (IH (rest s 1) (d + 1) _ hr (by omega) (by omega) W g co Bo n hC (by omega))
 rw [hsz] at HC
 clear hr hC hc h0 hd hn hsz IH
 go_enter Tryd.func49, Tryd.ntmps49
 go_wp2_with (go_at_call 72; refine HC.out.mono ?_; rintro e w1 ⟨b1, o1, B1, n1, rfl, hb⟩; have HB := Aside0.mk hb; clear hb)
 go_ret3
 exact ⟨b1, o1, B1, n1, rfl, HB.out⟩
end FJ
end Go.Proofs.YtnajijaachgipaaDoor.PT
end
section
namespace Go.Proofs.YtnajijaachgipaaDoor.PT
open Go.RowKit Go.Proofs.YtnajijaachgipaaDoorW.PrintWords Go.Proofs.YtnajijaachgipaaDoorW.PrintLast Go.Proofs.YtnajijaachgipaaDoorW.PrintMore Go.Proofs.YtnajijaachgipaaDoor.H
set_option linter.unusedVariables false
set_option linter.unusedSimpArgs false
namespace FJ
theorem rs_size {k : Nat} {s a b : ByteArray} {o : Option Int} (h : rs k s = some (a, b, o)) : b.size ≤ s.size := by
 obtain ⟨q, hq, hx⟩ := Option.bind_eq_some_iff.mp h
 split at hx
 ·rename_i hc; obtain rfl := Option.some.inj hx; exact hc
 cases hx
theorem rn_size {k : Nat} {s a b : ByteArray} (h : rn k s = some (a, b, none)) : b.size < s.size := by
 obtain ⟨q, hq, hx⟩ := Option.bind_eq_some_iff.mp h
 split at hx
 ·rename_i hc; obtain rfl := Option.some.inj hx; simpa using hc
 cases hx
theorem word_cases {s : ByteArray} {w : List UInt8} {k : Int} {no : Option Res} {r : Res} (h : word s w k no = some r) : (s.size < w.length ∧ no = some r) ∨ (w.length ≤ s.size ∧ (s.extract 0 w.length).toList = w ∧ r = some (lit k ByteArray.empty, rest s w.length)) ∨ (w.length ≤ s.size ∧ (s.extract 0 w.length).toList ≠ w ∧ no = some r) := by
 unfold word at h
 split at h
 ·rename_i hc; exact .inl ⟨by omega, h⟩
 rename_i hc
 split at h
 ·rename_i hd; exact .inr (.inl ⟨by omega, hd, (Option.some.inj h).symm⟩)
 rename_i hd; exact .inr (.inr ⟨by omega, hd, h⟩)
theorem val_step (k : Nat) (A : AC k) (O : OC k) : VC (k + 1) := by
 intro s d r h h0 hd W g co Bo n hC hn
 unfold pV at h
 by_cases hs : s.size = 0
 ·rw [if_pos hs] at h
  obtain rfl := Option.some.inj h
  exact val_empty s d hs W g co Bo n _
 rw [if_neg hs] at h
 by_cases hdd : 300 < d + 1
 ·rw [if_pos hdd] at h
  obtain rfl := Option.some.inj h
  exact val_deep s d hs (by omega) W g co Bo n _
 rw [if_neg hdd] at h
 by_cases c1 : bt s 0 = 123
 ·rw [if_pos c1] at h
  cases r with
  | none => exact val_obj_none k O s d hs h0 (by omega) c1 h W g co Bo n hC hn
  | some x => exact val_obj_some k O s d x hs h0 (by omega) c1 h W g co Bo n hC hn
 rw [if_neg c1] at h
 by_cases c2 : bt s 0 = 91
 ·rw [if_pos c2] at h
  cases r with
  | none => exact val_arr_none k A s d hs h0 (by omega) c2 h W g co Bo n hC hn
  | some x => exact val_arr_some k A s d x hs h0 (by omega) c2 h W g co Bo n hC hn
 rw [if_neg c2] at h
 by_cases c3 : bt s 0 = 34
 ·rw [if_pos c3] at h
  obtain ⟨⟨a, b, o⟩, hr, hx⟩ := Option.bind_eq_some_iff.mp h
  obtain rfl := Option.some.inj hx
  cases o with
  | none =>
   have := rs_size hr
   rw [size_rest] at this
   exact (val_str_ok k s a b d hs h0 (by omega) c3 hr W g co Bo n hC (by omega)).mono fun e w' ⟨B, c, he, hp, hl⟩ => ⟨B, n * 5, some (B, c), n + 1, he, hp, (by show n + 1 + b.size ≤ _; omega), hl⟩
  | some x => exact val_str_err k s a b x d hs h0 (by omega) c3 hr W g co Bo n _
 rw [if_neg c3] at h
 by_cases c4 : bt s 0 = 116
 ·rw [if_pos c4] at h
  rcases word_cases h with ⟨h4, e⟩ | ⟨h4, hq, e⟩ | ⟨h4, hq, e⟩
  ·obtain rfl := Option.some.inj e
   exact val_true_short s d hs h0 (by omega) c4 h4 W g co Bo n _
  ·subst e
   exact (val_true_ok s d hs h0 (by omega) c4 h4 hq W g co Bo n hC).mono fun e w' ⟨N, he, hp, hl⟩ => ⟨N, 0, Bo, n, he, hp, (by show n + (rest s 4).size ≤ _; rw [size_rest]; omega), hl⟩
  obtain rfl := Option.some.inj e
  exact val_true_diff s d hs h0 (by omega) c4 h4 hq W g co Bo n _
 rw [if_neg c4] at h
 by_cases c5 : bt s 0 = 102
 ·rw [if_pos c5] at h
  rcases word_cases h with ⟨h4, e⟩ | ⟨h4, hq, e⟩ | ⟨h4, hq, e⟩
  ·obtain rfl := Option.some.inj e
   exact val_false_short s d hs h0 (by omega) c5 h4 W g co Bo n _
  ·subst e
   exact (val_false_ok s d hs h0 (by omega) c5 h4 hq W g co Bo n hC).mono fun e w' ⟨N, he, hp, hl⟩ => ⟨N, 0, Bo, n, he, hp, (by show n + (rest s 5).size ≤ _; rw [size_rest]; omega), hl⟩
  obtain rfl := Option.some.inj e
  exact val_false_diff s d hs h0 (by omega) c5 h4 hq W g co Bo n _
 rw [if_neg c5] at h
 by_cases c6 : bt s 0 = 110
 ·rw [if_pos c6] at h
  have no : ∀ {r : Res}, (if 3 ≤ s.size then (fastjson_zzFold.f k (s.extract 0 3) (⟨#[110, 97, 110]⟩ : ByteArray)).bind fun b => some (if b = true then some (lit 4 (s.extract 0 3), rest s 3) else none) else some none) = some r →
    (s.size < 3 ∧ r = none) ∨ (3 ≤ s.size ∧ fastjson_zzFold.f k (s.extract 0 3) (⟨#[110, 97, 110]⟩ : ByteArray) = some false ∧ r = none) ∨ (3 ≤ s.size ∧ fastjson_zzFold.f k (s.extract 0 3) (⟨#[110, 97, 110]⟩ : ByteArray) = some true ∧ r = some (lit 4 (s.extract 0 3), rest s 3)) := by
   intro r e
   split at e
   ·rename_i h3
    obtain ⟨b, hb, hx⟩ := Option.bind_eq_some_iff.mp e
    obtain rfl := Option.some.inj hx
    cases b with
    | false => exact .inr (.inl ⟨h3, hb, rfl⟩)
    | true => exact .inr (.inr ⟨h3, hb, rfl⟩)
   exact .inl ⟨by omega, (Option.some.inj e).symm⟩
  have yes : ∀ {W' : World} {e : Ending}, (∃ (B c : Nat), e = .returned (.tuple #[.pointer (some ⟨B, n * 5, none⟩), .string (rest s 3), .nilIface]) ∧ PS W W' g co Bo n (some (B, c)) (n + 1) ∧ Lies W' (Nw W W' g Bo n (some (B, c)) (n + 1)) B (n * 5) (lit 4 (s.extract 0 3))) → 3 ≤ s.size → Post W g co Bo n (n + s.size) (some (lit 4 (s.extract 0 3), rest s 3)) e W' :=
   fun ⟨B, c, he, hp, hl⟩ h3 => ⟨B, n * 5, some (B, c), n + 1, he, hp, (by show n + 1 + (rest s 3).size ≤ _; rw [size_rest]; omega), hl⟩
  rcases word_cases h with ⟨h4, e⟩ | ⟨h4, hq, e⟩ | ⟨h4, hq, e⟩
  ·rcases no e with ⟨h3, rfl⟩ | ⟨h3, hf, rfl⟩ | ⟨h3, hf, rfl⟩
   ·exact val_n_lt3 k s d hs h0 (by omega) c6 h3 W g co Bo n _
   ·exact val_n_short_no k s d hs h0 (by omega) c6 h3 h4 hf W g co Bo n _
   exact (val_n_short_yes k s d hs h0 (by omega) c6 h3 h4 hf W g co Bo n hC (by omega)).mono fun e w' hq => yes hq h3
  ·subst e
   exact (val_null_ok s d hs h0 (by omega) c6 h4 hq W g co Bo n hC).mono fun e w' ⟨N, he, hp, hl⟩ => ⟨N, 0, Bo, n, he, hp, (by show n + (rest s 4).size ≤ _; rw [size_rest]; omega), hl⟩
  have h4' : 4 ≤ s.size := h4
  rcases no e with ⟨h3, rfl⟩ | ⟨h3, hf, rfl⟩ | ⟨h3, hf, rfl⟩
  ·omega
  ·exact val_n_diff_no k s d hs h0 (by omega) c6 h4 hq hf W g co Bo n _
  exact (val_n_diff_yes k s d hs h0 (by omega) c6 h4 hq hf W g co Bo n hC (by omega)).mono fun e w' hq => yes hq h3
 rw [if_neg c6] at h
 obtain ⟨⟨a, b, o⟩, hr, hx⟩ := Option.bind_eq_some_iff.mp h
 obtain rfl := Option.some.inj hx
 cases o with
 | none =>
  have := rn_size hr
  exact (val_num_ok k s a b d hs h0 (by omega) (by omega) hr W g co Bo n hC (by omega)).mono fun e w' ⟨B, c, he, hp, hl⟩ => ⟨B, n * 5, some (B, c), n + 1, he, hp, (by show n + 1 + b.size ≤ _; omega), hl⟩
 | some x => exact val_num_err k s a b x d hs h0 (by omega) (by omega) hr W g co Bo n _
end FJ
end Go.Proofs.YtnajijaachgipaaDoor.PT
end
section
namespace Go.Proofs.YtnajijaachgipaaDoor.H
open Go.RowKit Go.Proofs.YtnajijaachgipaaDoorW.PrintWords Go.Proofs.YtnajijaachgipaaDoorW.PrintLast Go.Proofs.YtnajijaachgipaaDoorW.PrintMore
set_option linter.unusedVariables false
def ptr (p : Nat × Nat) : Value := .pointer (some ⟨p.1, p.2, none⟩)
/-- Where the elements' trees may lie. -/
def Kd_ (W0 W : World) (g : Nat) (Bo : Option (Nat × Nat)) (n : Nat) (B1 : Option (Nat × Nat)) (n1 ba oa : Nat) (v : Value) (b o : Nat) : Prop := Nw W0 W g Bo n B1 n1 b o ∧ ¬ (b = ba ∧ oa ≤ o ∧ o < oa + 5) ∧ some b ≠ v.ownBlock
structure AI (W0 W : World) (g co : Nat) (Bo : Option (Nat × Nat)) (n : Nat) (B1 : Option (Nat × Nat)) (n1 ba oa : Nat) (v : Value) (ps : List (Nat × Nat)) (ts : List FT) : Prop where
 st : PS W0 W g co Bo n B1 n1
 new : ∀ j, j < 5 → ¬ Old W0 g Bo (n * 5) ba (oa + j)
 old : ∀ j, j < 5 → Old W g B1 (n1 * 5) ba (oa + j)
 form : ∃ cur, W.heap[ba]? = some (.cells cur 86 (0, 0)) ∧ oa + 5 ≤ cur.size
 c4 : W.cell? ⟨ba, oa + 4, none⟩ = some (.int .i64 2)
 c2 : W.cell? ⟨ba, oa + 2, none⟩ = some v
 hl : ps.length = ts.length
 own : W.ownsRow W0.heap.size 56 1 v ts.length (ps.map ptr)
 blk : ∀ A, v.ownBlock = some A → A ≠ g ∧ A ≠ ba ∧ ∀ c, B1 ≠ some (A, c)
 kids : Kids W (Kd_ W0 W g Bo n B1 n1 ba oa v) ps ts
section
variable {W W0 W1 W2 : World} {g co n n1 n2 ba oa : Nat} {Bo B1 B2 : Option (Nat × Nat)} {v v1 : Value} {ps : List (Nat × Nat)} {ts : List FT}
theorem AI.alt (h : AI W0 W g co Bo n B1 n1 ba oa v ps ts) : ∀ A, v.ownBlock = some A → W0.heap.size ≤ A ∧ A < W.heap.size := fun A e => h.own.lt A e
theorem AI.balt (h : AI W0 W g co Bo n B1 n1 ba oa v ps ts) : ba < W.heap.size := by
 obtain ⟨cur, e, _⟩ := h.form
 exact (Array.getElem?_eq_some_iff.1 e).1
theorem own_same {base e size m : Nat} {xs : List Value} (h : W.ownsRow base e size v m xs) (hb : ∀ A, v.ownBlock = some A → W1.heap[A]? = W.heap[A]?) : W1.ownsRow base e size v m xs := by
 refine ⟨h.1, ?_⟩
 rcases h.2 with hn | ⟨A, cap, cur, rfl, hbs, hg, rest⟩
 ·exact .inl hn
 exact .inr ⟨A, cap, cur, rfl, hbs, (hb A rfl).trans hg, rest⟩
theorem AI.child {b o : Nat} {t : FT} (h : AI W0 W1 g co Bo n B1 n1 ba oa v ps ts) (k : PS W1 W2 g co B1 n1 B2 n2) (hl : Lies W2 (Nw W1 W2 g B1 n1 B2 n2) b o t) :
  AI W0 W2 g co Bo n B2 n2 ba oa v ps ts ∧ Pend W2 (Kd_ W0 W2 g Bo n B2 n2 ba oa v) ps ts b o t := by
 have hst := h.st.trans k
 have hA : ∀ A, v.ownBlock = some A → ∀ o, Old W1 g B1 (n1 * 5) A o := fun A e o => ⟨(h.alt A e).2, (h.blk A e).1, fun c e2 => absurd e2 ((h.blk A e).2.2 c)⟩
 obtain ⟨cur, hc, hcs⟩ := h.form
 obtain ⟨cur', hc', hs'⟩ := k.ch.form ba h.balt cur _ hc
 refine ⟨⟨hst, h.new, fun j hj => (h.old j hj).step k.lk k.ch.size, ⟨cur', hc', by omega⟩, ((h.old 4 (by omega)).keep k.ch).trans h.c4, ((h.old 2 (by omega)).keep k.ch).trans h.c2, h.hl, own_same h.own (fun A e => k.ch.block A (h.alt A e).2 (fun o => (hA A e o).not)), fun A e => ⟨(h.blk A e).1, (h.blk A e).2.1, fun c e2 => ?_⟩, ?_⟩, ?_⟩
 ·rcases k.lk.2 A c e2 with ⟨c', e3⟩ | hle
  ·exact (h.blk A e).2.2 c' e3
  have := (h.alt A e).2; omega
 ·exact h.kids.frame (fun b o hq => ⟨⟨hq.1.1, hq.1.2.step k.lk k.ch.size⟩, hq.2⟩) (fun b o hq => hq.1.2.keep k.ch) (fun b o hq s => s.ch k.ch)
 refine h.kids.pend (fun b o hq => ⟨⟨hq.1.1, hq.1.2.step k.lk k.ch.size⟩, hq.2⟩) (fun b o hq => hq.1.2.keep k.ch) (fun b o hq s => s.ch k.ch) (fun b o hq => ⟨⟨fun ho => hq.1 (ho.step h.st.lk h.st.ch.size), hq.2⟩, ?_, fun e => hq.1 (hA b e.symm o)⟩) (fun b o hq hr => hr.1 hq.1.2) hl
 rintro ⟨rfl, h1, h2⟩
 have := h.old (o - oa) (by omega)
 rw [show oa + (o - oa) = o by omega] at this
 exact hq.1 this
theorem AI.below (h : AI W0 W1 g co Bo n B1 n1 ba oa v ps ts) (hb : Below W1.heap.size W1 W2) : AI W0 W2 g co Bo n B1 n1 ba oa v ps ts := by
 have k : PS W1 W2 g co B1 n1 B1 n1 := (PS.refl h.st.cs).below hb
 have hA : ∀ A, v.ownBlock = some A → ∀ o, Old W1 g B1 (n1 * 5) A o := fun A e o => ⟨(h.alt A e).2, (h.blk A e).1, fun c e2 => absurd e2 ((h.blk A e).2.2 c)⟩
 obtain ⟨cur, hc, hcs⟩ := h.form
 exact ⟨h.st.below hb, h.new, fun j hj => (h.old j hj).step k.lk k.ch.size, ⟨cur, (hb.block ba h.balt).trans hc, hcs⟩, ((h.old 4 (by omega)).keep k.ch).trans h.c4, ((h.old 2 (by omega)).keep k.ch).trans h.c2, h.hl, own_same h.own (fun A e => hb.block A (h.alt A e).2), h.blk, h.kids.frame (fun b o hq => ⟨⟨hq.1.1, hq.1.2.step k.lk k.ch.size⟩, hq.2⟩) (fun b o hq => hq.1.2.keep k.ch) (fun b o hq s => s.ch k.ch)⟩
/-- One element more. -/
theorem AI.push {b o : Nat} {t : FT} (h : AI W0 W1 g co Bo n B1 n1 ba oa v ps ts) (hk : Pend W1 (Kd_ W0 W1 g Bo n B1 n1 ba oa v) ps ts b o t)
  (hown : W2.ownsRow W0.heap.size 56 1 v1 (ts.length + 1) (ps.map ptr ++ [ptr (b, o)])) (hg : W1.grownBy W2 v.ownBlock) (hat : v1.ownBlock = v.ownBlock ∨ ∃ A, v1.ownBlock = some A ∧ W1.heap.size ≤ A) :
  AI W0 (W2.setCell ⟨ba, oa + 2, none⟩ v1) g co Bo n B1 n1 ba oa v1 (ps ++ [(b, o)]) (ts ++ [t]) := by
 have hba := h.balt
 have hgl := h.st.cs.glt
 obtain ⟨cur, hc, hcs⟩ := h.form
 have hne : ∀ k, k < W1.heap.size → (some k = v.ownBlock → False) → W2.heap[k]? = W1.heap[k]? := fun k hk hn => hg.block k hk (fun e => hn e)
 have hc2 : W2.heap[ba]? = some (.cells cur 86 (0, 0)) := (hne ba hba (fun e => (h.blk ba e.symm).2.1 rfl)).trans hc
 have hst : PS W0 W2 g co Bo n B1 n1 := h.st.grown hg (fun r e => ⟨(h.alt r e).1, (h.blk r e).1, (h.blk r e).2.2⟩)
 have hold : ∀ b o, Old W1 g B1 (n1 * 5) b o → Old W2 g B1 (n1 * 5) b o := fun b o ho => ho.step (Lk.refl _ _ _) hg.size
 have hst2 := hst.write (h.new 2 (by omega)) (hold _ _ (h.old 2 (by omega))) hc2 v1
 have hset := cell_setCell (b := ba) (o := oa + 2) hc2 v1
 have hsz := (Ch.set (o := oa + 2) hc2 v1).size
 have hv1 : ∀ A, v1.ownBlock = some A → A ≠ g ∧ A ≠ ba ∧ ∀ c, B1 ≠ some (A, c) := fun A e => by
  rcases hat with q | ⟨A', q, hle⟩
  ·exact h.blk A (q ▸ e)
  rw [q] at e
  obtain rfl := Option.some.inj e
  exact ⟨by omega, by omega, fun c e2 => by have := h.st.cs.blt e2; omega⟩
 have hfr : ∀ b o, Kd_ W0 W1 g Bo n B1 n1 ba oa v b o → Kd_ W0 (W2.setCell ⟨ba, oa + 2, none⟩ v1) g Bo n B1 n1 ba oa v1 b o := fun b o hq => by
  refine ⟨⟨hq.1.1, (hold b o hq.1.2).step (Lk.refl _ _ _) hsz⟩, hq.2.1, fun e => ?_⟩
  rcases hat with q | ⟨A', q, hle⟩
  ·exact hq.2.2 (e.trans q)
  rw [q] at e
  obtain rfl := Option.some.inj e
  have := hq.1.2.1
  omega
 have hcl : ∀ b o, Kd_ W0 W1 g Bo n B1 n1 ba oa v b o → (W2.setCell ⟨ba, oa + 2, none⟩ v1).cell? ⟨b, o, none⟩ = W1.cell? ⟨b, o, none⟩ := fun b o hq => by
  rw [hset, if_neg (fun e => hq.2.1 ⟨e.1, by omega, by omega⟩)]
  exact World.cell?_of_block (hne b hq.1.2.1 (fun e => hq.2.2 e))
 have hsf : ∀ b o, Kd_ W0 W1 g Bo n B1 n1 ba oa v b o → Soft W1 b → Soft (W2.setCell ⟨ba, oa + 2, none⟩ v1) b := fun b o hq s =>
  (s.of (hne b hq.1.2.1 (fun e => hq.2.2 e))).ch (Ch.set (o := oa + 2) hc2 v1)
 refine ⟨hst2, h.new, fun j hj => (hold _ _ (h.old j hj)).step (Lk.refl _ _ _) hsz, ?_, ?_, ?_, by simp [h.hl], ?_, hv1, (hk.frame hfr hcl hsf).push h.hl⟩
 ·obtain ⟨cur', e', s'⟩ := (Ch.set (o := oa + 2) hc2 v1).form ba (Array.getElem?_eq_some_iff.1 hc2).1 cur _ hc2
  exact ⟨cur', e', by omega⟩
 ·rw [hset, if_neg (by omega)]
  exact (World.cell?_of_block (hne ba hba (fun e => (h.blk ba e.symm).2.1 rfl))).trans h.c4
 ·rw [hset, if_pos ⟨rfl, rfl, by omega⟩]
 have := own_same (W1 := W2.setCell ⟨ba, oa + 2, none⟩ v1) hown (fun A e => by
  rw [setCell_eq_setRow W2 ba (oa + 2) cur _ (0, 0) v1 hc2]
  exact setRow_other _ _ _ _ (hv1 A e).2.1)
 simpa using this
theorem AI.soft (h : AI W0 W g co Bo n B1 n1 ba oa v ps ts) : W.frozen? ⟨ba, oa + 2, none⟩ = false := by
 obtain ⟨cur, e, _⟩ := h.form
 simp [World.frozen?, e]
theorem AI.far (h : AI W0 W g co Bo n B1 n1 ba oa v ps ts) (hg : W.grownBy W2 v.ownBlock) : W2.cell? ⟨ba, oa + 2, none⟩ = some v ∧ W2.frozen? ⟨ba, oa + 2, none⟩ = false := by
 have hb : W2.heap[ba]? = W.heap[ba]? := hg.block ba h.balt (fun e => (h.blk ba e.symm).2.1 rfl)
 exact ⟨(World.cell?_of_block hb).trans h.c2, (World.frozen?_of_block hb).trans h.soft⟩
/-- The array, done. -/
theorem AI.done (h : AI W0 W g co Bo n B1 n1 ba oa v ps ts) : Lies W (Nw W0 W g Bo n B1 n1) ba oa (.mk 2 ByteArray.empty [] ts) := by
 have hnw : ∀ j, j < 5 → Nw W0 W g Bo n B1 n1 ba (oa + j) := fun j hj => ⟨h.new j hj, h.old j hj⟩
 have hv : ∃ ad, ((v = .slice none 0 0 ∧ ts = []) ∨ ∃ c, v = .slice (some ⟨ad, 0, none⟩) ts.length c) ∧ (∀ (j : Nat) (p : Nat × Nat), ps[j]? = some p → W.cell? ⟨ad, j, none⟩ = some (.pointer (some ⟨p.1, p.2, none⟩)) ∧ Nw W0 W g Bo n B1 n1 ad j) := by
  rcases h.own.2 with ⟨e, e2⟩ | ⟨A, cap, cur, e, hb, hh, hnc, hcm, hcs, htk⟩
  ·have : ts = [] := List.eq_nil_of_length_eq_zero e2
   have hp0 : ps = [] := List.eq_nil_of_length_eq_zero (h.hl.trans e2)
   subst hp0
   exact ⟨0, .inl ⟨e, this⟩, fun j p hp => by simp at hp⟩
  refine ⟨A, .inr ⟨cap, e⟩, fun j p hp => ?_⟩
  have hA := h.alt A (by rw [e]; rfl)
  have hB := h.blk A (by rw [e]; rfl)
  have hj : j < ps.length := (List.getElem?_eq_some_iff.1 hp).1
  refine ⟨?_, fun ho => by have := ho.1; omega, hA.2, hB.1, fun c e2 => absurd e2 (hB.2.2 c)⟩
  rw [cell_of_row W A j cur _ (0, 0) hh]
  have hx := congrArg (fun l => l[j]?) htk
  simp only [List.getElem?_take_of_lt (show j < ts.length * 1 by rw [← h.hl]; omega), List.getElem?_map, hp, Option.map_some, Array.getElem?_toList] at hx
  exact hx
 obtain ⟨ad, hv, he⟩ := hv
 obtain ⟨Q, hQ, hd, hk⟩ := h.kids
 refine .arr h.c4 (hnw 4 (by omega)) h.c2 (hnw 2 (by omega)) hv h.hl he Q (fun j b' o' hq => ⟨(hQ j b' o' hq).1, (hQ j b' o' hq).2.1, fun hts e => (hQ j b' o' hq).2.2 ?_⟩) hd hk
 rcases hv with ⟨_, e2⟩ | ⟨c, e2⟩
 ·exact absurd e2 hts
 rw [e2, e]; rfl
end
end Go.Proofs.YtnajijaachgipaaDoor.H
end
section
namespace Go.Proofs.YtnajijaachgipaaDoor.PT
open Go.RowKit Go.Proofs.YtnajijaachgipaaDoorW.PrintWords Go.Proofs.YtnajijaachgipaaDoorW.PrintLast Go.Proofs.YtnajijaachgipaaDoorW.PrintMore Go.Proofs.YtnajijaachgipaaDoor.H
set_option linter.unusedVariables false
set_option linter.unusedSimpArgs false
namespace FJ
theorem sk_calls {k : Nat} {s t : ByteArray} (h : sk k s = some t) (w : World) : Calls Tryd.prog 47 #[.string s] w fun e w' => e = .returned (.string t) ∧ ∃ m, w' = w.drewN m := by
 obtain ⟨q, hq, hx⟩ := Option.bind_eq_some_iff.mp h
 split at hx
 ·obtain rfl := Option.some.inj hx
  exact (fastjson_skipWS.calls k s q w hq).mono fun e w' ⟨he, m, hm⟩ => ⟨he, m, hm⟩
 cases hx
theorem sk_size {k : Nat} {s t : ByteArray} (h : sk k s = some t) : t.size ≤ s.size := by
 obtain ⟨q, hq, hx⟩ := Option.bind_eq_some_iff.mp h
 split at hx
 ·rename_i hc; obtain rfl := Option.some.inj hx; exact hc
 cases hx
theorem ptr_one (p : Nat × Nat) : ∀ u ∈ [ptr p], u.oneCell' = true := by
 intro u hu
 simp only [List.mem_singleton] at hu
 subst hu
 rfl
theorem info_ptr : (Tryd.prog.info? 56).map (fun i => (i.zero, i.size, i.bytes)) = some (some (.pointer none), 1, 8) := by kernel_rfl
theorem own_slice {w : World} {base e m : Nat} {v : Value} {xs : List Value} (h : w.ownsRow base e 1 v (m + 1) xs) : ∃ A c : Nat, v = .slice (some ⟨A, 0, none⟩) (m + 1) c := by
 rcases h.2 with ⟨_, e⟩ | ⟨A, c, _, e, _⟩
 ·omega
 exact ⟨A, c, e⟩
theorem drN (W : World) (m : Nat) : Below W.heap.size W (W.drewN m) := pw_below_drewN (Below.refl _ _) m
set_option maxHeartbeats 2000000 in
set_option maxRecDepth 100000 in
theorem arr_empty (k : Nat) (s t : ByteArray) (d : Int) (hs : sk k s = some t) (h : t.size = 0) (W : World) (g co : Nat) (Bo : Option (Nat × Nat)) (n m : Nat) :
  Calls Tryd.prog 72 #[.pointer (some ⟨g, co, none⟩), .string s, .int .i64 d] W (Post W g co Bo n m none) := by
 have e0 : ((t.size : Int) == 0) = true := beq_iff_eq.2 (by omega)
 have HS := Aside0.mk hs
 clear hs
 go_enter Tryd.func72, Tryd.ntmps72
 go_wp2_with (first
  | (go_at_call 47; with_reducible refine (sk_calls HS.out _).mono ?_; rintro e w1 ⟨rfl, m1, rfl⟩; have HB := Aside0.mk (drN W m1))
  | (go_at_call 41; refine (errNew _ _).mono ?_; rintro e w2 ⟨et, ep, rfl, hb⟩))
 go_ret3
 exact Post.err (Ch.of_below (HB.out.trans (hb.mono HB.out.size)) _)
/-- The cells of a new Value that an array's beginning touches. -/
theorem newv_arr {W W1 : World} {g co n B c : Nat} {Bo : Option (Nat × Nat)} (h : NewV zc 86 W W1 g co Bo n B c) : W1.cell? ⟨B, n * 5 + 4, none⟩ = some (.int .i64 0) ∧ W1.frozen? ⟨B, n * 5 + 4, none⟩ = false ∧ W1.cell? ⟨B, n * 5 + 2, none⟩ = some (.slice none 0 0) ∧ W1.frozen? ⟨B, n * 5 + 2, none⟩ = false ∧ B < W1.heap.size := by
 obtain ⟨cur, hc, _⟩ := h.form
 exact ⟨h.zero 4 _ rfl, by simp [World.frozen?, hc], h.zero 2 _ rfl, by simp [World.frozen?, hc], h.st.blt rfl⟩
/-- An array that has just begun. -/
theorem AI.begin {W W1 W2 : World} {g co n n1 B c : Nat} {Bo B1 : Option (Nat × Nat)} (h0 : PS W W1 g co Bo n B1 n1) (h : NewV zc 86 W1 W2 g co B1 n1 B c) :
  AI W ((W2.setCell ⟨B, n1 * 5 + 4, none⟩ (.int .i64 2)).setCell ⟨B, n1 * 5 + 2, none⟩ (.slice none 0 0)) g co Bo n (some (B, c)) (n1 + 1) B (n1 * 5) (.slice none 0 0) [] [] := by
 obtain ⟨cur, hc, hcs⟩ := h.form
 have a0 := h0.new h
 have no : ∀ j, j < 5 → ¬ Old W g Bo (n * 5) B (n1 * 5 + j) := fun j hj ho => (h.old hj).1 (ho.step h0.lk h0.ch.size)
 have a1 := a0.write (no 4 (by omega)) (h.old (by omega)).2 hc (.int .i64 2)
 have c1 := Ch.set (o := n1 * 5 + 4) hc (.int .i64 2)
 obtain ⟨cur2, hc2, hs2⟩ := c1.form B (h.st.blt rfl) cur _ hc
 have a2 := a1.write (no 2 (by omega)) ((h.old (j := 2) (by omega)).2.step (Lk.refl _ _ _) c1.size) hc2 (.slice none 0 0)
 have c2 := Ch.set (o := n1 * 5 + 2) hc2 (.slice none 0 0)
 obtain ⟨cur3, hc3, hs3⟩ := c2.form B (Array.getElem?_eq_some_iff.1 hc2).1 cur2 _ hc2
 refine ⟨a2, no, fun j hj => ((h.old hj).2.step (Lk.refl _ _ _) c1.size).step (Lk.refl _ _ _) c2.size, ⟨cur3, hc3, by have := hcs 4 (by omega); omega⟩, ?_, ?_, rfl, World.ownsRow_nil _ _ _ _, fun A e => (by cases e), Kids.nil _ _⟩
 ·rw [cell_setCell hc2, if_neg (by omega), cell_setCell hc, if_pos ⟨rfl, rfl, hcs 4 (by omega)⟩]
 rw [cell_setCell hc2, if_pos ⟨rfl, rfl, by rw [hs2]; exact hcs 2 (by omega)⟩]
set_option maxHeartbeats 2000000 in
set_option maxRecDepth 100000 in
theorem arr_nil (k : Nat) (s t : ByteArray) (d : Int) (hs : sk k s = some t) (h : t.size ≠ 0) (hc : bt t 0 = 93) (W : World) (g co : Nat) (Bo : Option (Nat × Nat)) (n : Nat) (hC : CS zc 86 W g co Bo n) (hn : n ≤ 200000) :
  Calls Tryd.prog 72 #[.pointer (some ⟨g, co, none⟩), .string s, .int .i64 d] W (Post W g co Bo n (n + s.size + 1) (some (.mk 2 ByteArray.empty [] [], rest t 1))) := by
 obtain ⟨e0, e1, e2, e3, e4⟩ := nul h
 have k1 : (bt t 0 == 93) = true := beq_iff_eq.2 hc
 have hcs := cutr t 1 1 rfl (by omega)
 have hsz : n + 1 + (rest t 1).size ≤ n + s.size + 1 := by have := sk_size hs; rw [size_rest]; omega
 have HZ := Aside0.mk hsz
 have HS := Aside0.mk hs
 have HC := Aside0.mk hC
 have HN : Aside0 (n ≤ 1000000) := ⟨by omega⟩
 clear hs hC hc hn hsz
 obtain ⟨q, hq⟩ : ∃ q, q = n * 5 := ⟨_, rfl⟩
 have HQ := Aside0.mk hq
 clear hq
 go_enter Tryd.func72, Tryd.ntmps72
 go_wp2_with (first
  | (go_at_call 47; with_reducible refine (sk_calls HS.out _).mono ?_; rintro e w1 ⟨rfl, m1, rfl⟩; have HP := Aside0.mk ((PS.refl HC.out).below (drN W m1)))
  | (go_at_call 39; refine (getV g co n Bo _ HP.out.cs HN.out).mono ?_; rintro e w2 ⟨B, c, rfl, hv⟩; have HV := Aside0.mk hv; obtain ⟨c4, f4, c2, f2, hlt⟩ := newv_arr hv; clear hv; rw [← HQ.out] at c4 f4 c2 f2 ⊢))
 go_quiet (fail)
 go_wp2
 go_ret3
 have ha := (AI.begin HP.out HV.out).below (drN _ nq)
 rw [← HQ.out] at ha
 exact ⟨B, q, _, _, rfl, ha.st, HZ.out, ha.done⟩
structure LI (W wr : World) (g co : Nat) (Bo : Option (Nat × Nat)) (n ba oa m : Nat) (d : Int) (r : Res) (K kq : Nat) (s : ByteArray) (B1 : Option (Nat × Nat)) (n1 : Nat) (v : Value) (ps : List (Nat × Nat)) (ts : List FT) : Prop where
 ai : AI W wr g co Bo n B1 n1 ba oa v ps ts
 go : pAl kq s d ts = some r
 sz : n1 + s.size ≤ m
 le : kq ≤ K
 ln : ts.length + s.size ≤ m
set_option maxHeartbeats 4000000 in
set_option maxRecDepth 100000 in
theorem arr_loop (k K : Nat) (V : ∀ j, j < K → VC j) (s t : ByteArray) (d : Int) (hd0 : 1 ≤ d) (hd1 : d ≤ 300) (hs : sk k s = some t) (h : t.size ≠ 0) (hc : ¬ bt t 0 = 93) (r : Res) (hr : pAl K t d [] = some r) (W : World) (g co : Nat) (Bo : Option (Nat × Nat)) (n : Nat) (hC : CS zc 86 W g co Bo n) (hn : n + s.size + 1 ≤ 200000) :
  Calls Tryd.prog 72 #[.pointer (some ⟨g, co, none⟩), .string s, .int .i64 d] W (Post W g co Bo n (n + s.size + 1) r) := by
 obtain ⟨e0, e1, e2, e3, e4⟩ := nul h
 have k1 : (bt t 0 == 93) = false := beq_eq_false_iff_ne.2 hc
 have hsz : n + 1 + t.size ≤ n + s.size + 1 := by have := sk_size hs; omega
 obtain ⟨m, hm⟩ : ∃ m, m = n + s.size + 1 := ⟨_, rfl⟩
 rw [← hm]
 rw [← hm] at hsz
 have HM : Aside0 (m ≤ 200000) := ⟨by omega⟩
 have HZ := Aside0.mk hsz
 have HS := Aside0.mk hs
 have HC := Aside0.mk hC
 have HN : Aside0 (n ≤ 1000000) := ⟨by omega⟩
 have HR := Aside0.mk hr
 have HV := Aside0.mk V
 have HD : Aside0 (0 ≤ d ∧ d ≤ 300) := ⟨by omega⟩
 clear hs hC hc hn hsz hr V hd0 hd1 hm
 obtain ⟨q, hq⟩ : ∃ q, q = n * 5 := ⟨_, rfl⟩
 have HQ := Aside0.mk hq
 clear hq
 go_enter Tryd.func72, Tryd.ntmps72
 go_wp2_with (first
  | (go_at_call 47; with_reducible refine (sk_calls HS.out _).mono ?_; rintro e w1 ⟨rfl, m1, rfl⟩; have HP := Aside0.mk ((PS.refl HC.out).below (drN W m1)))
  | (go_at_call 39; refine (getV g co n Bo _ HP.out.cs HN.out).mono ?_; rintro e w2 ⟨B, c, rfl, hv⟩; have HW := Aside0.mk hv; obtain ⟨c4, f4, c2, f2, hlt⟩ := newv_arr hv; clear hv; rw [← HQ.out] at c4 f4 c2 f2 ⊢))
 have ha := AI.begin HP.out HW.out
 rw [← HQ.out] at ha
 have HL := Aside0.mk (show LI W _ g co Bo n B q m d r K K t (some (B, c)) (n + 1) (.slice none 0 0) [] [] from ⟨ha, HR.out, HZ.out, Nat.le_refl _, by have := HZ.out; simp; omega⟩)
 clear ha c4 f4 c2 f2 HP HW HR HS
 go_loopg [1] K (fun kq v1 wr => ∃ (s' : ByteArray) (B1 : Option (Nat × Nat)) (n1 : Nat) (v : Value) (ps : List (Nat × Nat)) (ts : List FT), v1 = .string s' ∧ Aside0 (LI W wr g co Bo n B q m d r K kq s' B1 n1 v ps ts))
 case atStart => exact ⟨t, _, _, _, _, _, rfl, HL⟩
 case round =>
  clear HL
  obtain ⟨s', B1, n1, v, ps, ts, rfl, HL⟩ := hrel
  obtain ⟨hai, hgo, hsz, hle, hln⟩ := HL.out
  clear HL
  cases gk with
  | zero => cases hgo
  | succ j =>
  unfold pAl at hgo
  obtain ⟨s1, h1, hx⟩ := Option.bind_eq_some_iff.mp hgo
  obtain ⟨z, h2, hx⟩ := Option.bind_eq_some_iff.mp hx
  clear hgo
  have hz1 := sk_size h1
  have HA := Aside0.mk hai
  have H1 := Aside0.mk h1
  have HVC := Aside0.mk (fun W' B1 n1 hC hn => HV.out j (by omega) s1 d z h2 HD.out.1 HD.out.2 W' g co B1 n1 hC hn)
  cases z with
  | none =>
   obtain rfl := Option.some.inj hx
   have hn1 : n1 + s1.size ≤ 200000 := by have := HM.out; omega
   clear hai h1 h2 hx
   go_wp2_with (first
    | (go_at_call 47; with_reducible refine (sk_calls H1.out _).mono ?_; rintro e w3 ⟨rfl, m2, rfl⟩; have HA1 := Aside0.mk (HA.out.below (drN wr m2)))
    | (go_at_call 49; refine (HVC.out _ _ _ HA1.out.st.cs hn1).mono ?_; rintro e w4 ⟨t1, et, ep, rfl, hch⟩; have HB := Aside0.mk (HA1.out.st.ch.comp hch HA1.out.st.lk.sub); clear hch)
    | (go_at_call 41; refine (errNew _ _).mono ?_; rintro e w5 ⟨et2, ep2, rfl, hb2⟩))
   go_ret3
   exact Post.err (HB.out.comp (Ch.of_below hb2 (fun _ _ => False)) (fun _ _ _ h => h.elim))
  | some x =>
   obtain ⟨tx, sx⟩ := x
   obtain ⟨s2, h3, hx⟩ := Option.bind_eq_some_iff.mp hx
   have H3 := Aside0.mk h3
   have hz3 := sk_size h3
   have hn1 : n1 + s1.size ≤ 200000 := by have := HM.out; omega
   have hl8 : (ts.length + 1) * 8 ≤ 140737488355328 := by have := HM.out; omega
   have HZZ : Aside0 (s2.size ≤ sx.size ∧ s1.size ≤ s'.size ∧ n1 + s'.size ≤ m ∧ ts.length + s'.size ≤ m ∧ j + 1 ≤ K) := ⟨hz3, hz1, hsz, hln, hle⟩
   clear hai h1 h2 h3 hz3 hz1 hsz hln hle
   by_cases y0 : s2.size = 0
   ·rw [if_pos y0] at hx
    obtain rfl := Option.some.inj hx
    have y1 : ((s2.size : Int) == 0) = true := beq_iff_eq.2 (by omega)
    clear hx y0
    go_wp2_with (first
     | (go_at_call 47; with_reducible refine (sk_calls H1.out _).mono ?_; rintro e w3 ⟨rfl, m2, rfl⟩; have HA1 := Aside0.mk (HA.out.below (drN wr m2)))
     | (go_at_call 49; refine (HVC.out _ _ _ HA1.out.st.cs hn1).mono ?_; rintro e w4 ⟨b, o, B2, n2, rfl, hps, hsz2, hlies⟩; have HA2 := Aside0.mk (HA1.out.child hps hlies); have HS2 : Aside0 (n2 + sx.size ≤ n1 + s1.size ∧ n1 ≤ n2) := ⟨hsz2, (by have := hps.lk.1; omega)⟩; have c2 := HA2.out.1.c2; have f2 := HA2.out.1.soft; have hqlt := HA2.out.1.balt; clear hps hsz2 hlies)
     | (at_builtin; refine print_append_cells W.heap.size rfl (.tmp 70) (.tmp 72) 84 56 (.pointer none) 1 8 rfl Tryd.underlying84 info_ptr rfl (by omega) (by omega) v ts.length (ps.map ptr) [ptr (b, o)] rfl rfl rfl (ptr_one _) HA2.out.1.own (Below.refl _ _) HA2.out.1.st.ch.size hl8 ?_; intro v1 w5 hown hb hg hat; obtain ⟨A1, cp1, rfl⟩ := own_slice hown; have HA3 := Aside0.mk (HA2.out.1.push HA2.out.2 hown hg hat); obtain ⟨c2b, f2b⟩ := HA2.out.1.far hg; have hlt5 : B < w5.heap.size := Nat.lt_of_lt_of_le hqlt hg.size; clear hown hb hg hat c2 f2)
     | (go_at_call 47; with_reducible refine (sk_calls H3.out _).mono ?_; rintro e w6 ⟨rfl, m3, rfl⟩; have HA4 := Aside0.mk (HA3.out.below (drN _ m3)))
     | (go_at_call 41; refine (errNew _ _).mono ?_; rintro e w7 ⟨et, ep, rfl, hb7⟩))
    go_ret3
    exact Post.err (HA4.out.st.ch.comp (Ch.of_below hb7 (fun _ _ => False)) (fun _ _ _ h => h.elim))
   rw [if_neg y0] at hx
   obtain ⟨y1, y2, y3, y4, y5⟩ := nul y0
   have hcs := cutr s2 1 1 rfl (by omega)
   by_cases y6 : bt s2 0 = 44
   ·rw [if_pos y6] at hx
    have y7 : (bt s2 0 == 44) = true := beq_iff_eq.2 y6
    have HX := Aside0.mk hx
    have Y0 := Aside0.mk y0
    clear hx y6 y0
    go_wp2_with (first
     | (go_at_call 47; with_reducible refine (sk_calls H1.out _).mono ?_; rintro e w3 ⟨rfl, m2, rfl⟩; have HA1 := Aside0.mk (HA.out.below (drN wr m2)))
     | (go_at_call 49; refine (HVC.out _ _ _ HA1.out.st.cs hn1).mono ?_; rintro e w4 ⟨b, o, B2, n2, rfl, hps, hsz2, hlies⟩; have HA2 := Aside0.mk (HA1.out.child hps hlies); have HS2 : Aside0 (n2 + sx.size ≤ n1 + s1.size ∧ n1 ≤ n2) := ⟨hsz2, (by have := hps.lk.1; omega)⟩; have c2 := HA2.out.1.c2; have f2 := HA2.out.1.soft; have hqlt := HA2.out.1.balt; clear hps hsz2 hlies)
     | (at_builtin; refine print_append_cells W.heap.size rfl (.tmp 70) (.tmp 72) 84 56 (.pointer none) 1 8 rfl Tryd.underlying84 info_ptr rfl (by omega) (by omega) v ts.length (ps.map ptr) [ptr (b, o)] rfl rfl rfl (ptr_one _) HA2.out.1.own (Below.refl _ _) HA2.out.1.st.ch.size hl8 ?_; intro v1 w5 hown hb hg hat; obtain ⟨A1, cp1, rfl⟩ := own_slice hown; have HA3 := Aside0.mk (HA2.out.1.push HA2.out.2 hown hg hat); obtain ⟨c2b, f2b⟩ := HA2.out.1.far hg; have hlt5 : B < w5.heap.size := Nat.lt_of_lt_of_le hqlt hg.size; clear hown hb hg hat c2 f2)
     | (go_at_call 47; with_reducible refine (sk_calls H3.out _).mono ?_; rintro e w6 ⟨rfl, m3, rfl⟩; have HA4 := Aside0.mk (HA3.out.below (drN _ m3)))
     | (go_at_call 41; refine (errNew _ _).mono ?_; rintro e w7 ⟨et, ep, rfl, hb7⟩))
    go_roundg j
    case measure => omega
    case rel =>
     refine ⟨rest s2 1, _, _, _, _, _, rfl, ⟨⟨HA4.out, HX.out, ?_, ?_, ?_⟩⟩⟩
     ·have := HZZ.out; have := HS2.out; rw [size_rest]; omega
     ·have := HZZ.out; omega
     have := HZZ.out; have := HS2.out; have := Y0.out; rw [size_rest, List.length_append]; simp; omega
   rw [if_neg y6] at hx
   have y7 : (bt s2 0 == 44) = false := beq_eq_false_iff_ne.2 y6
   by_cases y8 : bt s2 0 = 93
   ·rw [if_pos y8] at hx
    obtain rfl := Option.some.inj hx
    have y9 : (bt s2 0 == 93) = true := beq_iff_eq.2 y8
    clear hx y6 y8 y0
    go_wp2_with (first
     | (go_at_call 47; with_reducible refine (sk_calls H1.out _).mono ?_; rintro e w3 ⟨rfl, m2, rfl⟩; have HA1 := Aside0.mk (HA.out.below (drN wr m2)))
     | (go_at_call 49; refine (HVC.out _ _ _ HA1.out.st.cs hn1).mono ?_; rintro e w4 ⟨b, o, B2, n2, rfl, hps, hsz2, hlies⟩; have HA2 := Aside0.mk (HA1.out.child hps hlies); have HS2 : Aside0 (n2 + sx.size ≤ n1 + s1.size ∧ n1 ≤ n2) := ⟨hsz2, (by have := hps.lk.1; omega)⟩; have c2 := HA2.out.1.c2; have f2 := HA2.out.1.soft; have hqlt := HA2.out.1.balt; clear hps hsz2 hlies)
     | (at_builtin; refine print_append_cells W.heap.size rfl (.tmp 70) (.tmp 72) 84 56 (.pointer none) 1 8 rfl Tryd.underlying84 info_ptr rfl (by omega) (by omega) v ts.length (ps.map ptr) [ptr (b, o)] rfl rfl rfl (ptr_one _) HA2.out.1.own (Below.refl _ _) HA2.out.1.st.ch.size hl8 ?_; intro v1 w5 hown hb hg hat; obtain ⟨A1, cp1, rfl⟩ := own_slice hown; have HA3 := Aside0.mk (HA2.out.1.push HA2.out.2 hown hg hat); obtain ⟨c2b, f2b⟩ := HA2.out.1.far hg; have hlt5 : B < w5.heap.size := Nat.lt_of_lt_of_le hqlt hg.size; clear hown hb hg hat c2 f2)
     | (go_at_call 47; with_reducible refine (sk_calls H3.out _).mono ?_; rintro e w6 ⟨rfl, m3, rfl⟩; have HA4 := Aside0.mk (HA3.out.below (drN _ m3)))
     | (go_at_call 41; refine (errNew _ _).mono ?_; rintro e w7 ⟨et, ep, rfl, hb7⟩))
    go_ret3
    exact ⟨B, q, _, _, rfl, HA4.out.st, (by have := HZZ.out; have := HS2.out; show _ + (rest s2 1).size ≤ _; rw [size_rest]; omega), HA4.out.done⟩
   rw [if_neg y8] at hx
   obtain rfl := Option.some.inj hx
   have y9 : (bt s2 0 == 93) = false := beq_eq_false_iff_ne.2 y8
   clear hx y6 y8 y0
   go_wp2_with (first
     | (go_at_call 47; with_reducible refine (sk_calls H1.out _).mono ?_; rintro e w3 ⟨rfl, m2, rfl⟩; have HA1 := Aside0.mk (HA.out.below (drN wr m2)))
     | (go_at_call 49; refine (HVC.out _ _ _ HA1.out.st.cs hn1).mono ?_; rintro e w4 ⟨b, o, B2, n2, rfl, hps, hsz2, hlies⟩; have HA2 := Aside0.mk (HA1.out.child hps hlies); have HS2 : Aside0 (n2 + sx.size ≤ n1 + s1.size ∧ n1 ≤ n2) := ⟨hsz2, (by have := hps.lk.1; omega)⟩; have c2 := HA2.out.1.c2; have f2 := HA2.out.1.soft; have hqlt := HA2.out.1.balt; clear hps hsz2 hlies)
     | (at_builtin; refine print_append_cells W.heap.size rfl (.tmp 70) (.tmp 72) 84 56 (.pointer none) 1 8 rfl Tryd.underlying84 info_ptr rfl (by omega) (by omega) v ts.length (ps.map ptr) [ptr (b, o)] rfl rfl rfl (ptr_one _) HA2.out.1.own (Below.refl _ _) HA2.out.1.st.ch.size hl8 ?_; intro v1 w5 hown hb hg hat; obtain ⟨A1, cp1, rfl⟩ := own_slice hown; have HA3 := Aside0.mk (HA2.out.1.push HA2.out.2 hown hg hat); obtain ⟨c2b, f2b⟩ := HA2.out.1.far hg; have hlt5 : B < w5.heap.size := Nat.lt_of_lt_of_le hqlt hg.size; clear hown hb hg hat c2 f2)
     | (go_at_call 47; with_reducible refine (sk_calls H3.out _).mono ?_; rintro e w6 ⟨rfl, m3, rfl⟩; have HA4 := Aside0.mk (HA3.out.below (drN _ m3)))
     | (go_at_call 41; refine (errNew _ _).mono ?_; rintro e w7 ⟨et, ep, rfl, hb7⟩))
   go_ret3
   exact Post.err (HA4.out.st.ch.comp (Ch.of_below hb7 (fun _ _ => False)) (fun _ _ _ h => h.elim))
theorem arr_all (k : Nat) (V : ∀ j, j < k → VC j) : AC k := by
 intro s d r h hd0 hd1 W g co Bo n hC hn
 cases k with
 | zero => cases h
 | succ k =>
 unfold pA at h
 obtain ⟨t, hs, hx⟩ := Option.bind_eq_some_iff.mp h
 by_cases y0 : t.size = 0
 ·rw [if_pos y0] at hx
  obtain rfl := Option.some.inj hx
  exact arr_empty k s t d hs y0 W g co Bo n _
 rw [if_neg y0] at hx
 by_cases y1 : bt t 0 = 93
 ·rw [if_pos y1] at hx
  obtain rfl := Option.some.inj hx
  exact arr_nil k s t d hs y0 y1 W g co Bo n hC (by omega)
 rw [if_neg y1] at hx
 exact arr_loop k k (fun j hj => V j (by omega)) s t d hd0 hd1 hs y0 y1 r hx W g co Bo n hC hn
end FJ
end Go.Proofs.YtnajijaachgipaaDoor.PT
end
section
namespace Go.Proofs.YtnajijaachgipaaDoor.PT
open Go.RowKit Go.Proofs.YtnajijaachgipaaDoorW.PrintWords Go.Proofs.YtnajijaachgipaaDoorW.PrintLast Go.Proofs.YtnajijaachgipaaDoorW.PrintMore Go.Proofs.YtnajijaachgipaaDoor.H
set_option linter.unusedVariables false
set_option linter.unusedSimpArgs false
namespace FJ
/-! ### the text of a tree -/
mutual
def txt : FT → List Int
 | .mk k s ks ts => if k = 7 then 34 :: (bytesOf s ++ [34]) else if k = 1 then 123 :: (txtO ks ts ++ [125]) else if k = 2 then 91 :: (txtA ts ++ [93]) else if k = 4 then bytesOf s else if k = 5 then [116, 114, 117, 101] else if k = 6 then [102, 97, 108, 115, 101] else if k = 0 then [110, 117, 108, 108] else []
def txtA : List FT → List Int
 | [] => []
 | [t] => txt t
 | t :: t2 :: ts => txt t ++ 44 :: txtA (t2 :: ts)
def txtO : List ByteArray → List FT → List Int
 | _, [] => []
 | ks, [t] => 34 :: (bytesOf (ks.headD ByteArray.empty) ++ 34 :: 58 :: txt t)
 | ks, t :: t2 :: ts => 34 :: (bytesOf (ks.headD ByteArray.empty) ++ 34 :: 58 :: (txt t ++ 44 :: txtO ks.tail (t2 :: ts)))
end
/-- The kinds that a parser makes. -/
inductive Made : FT → Prop
 | leaf {k : Int} {s : ByteArray} (h : k = 7 ∨ k = 4 ∨ k = 5 ∨ k = 6 ∨ k = 0) : Made (.mk k s [] [])
 | arr {ts : List FT} (h : ∀ t ∈ ts, Made t) : Made (.mk 2 ByteArray.empty [] ts)
 | obj {ks : List ByteArray} {ts : List FT} (hn : ks.length = ts.length) (h : ∀ t ∈ ts, Made t) : Made (.mk 1 ByteArray.empty ks ts)
/-- What a call that appends leaves. -/
def MP (w0 : World) (r : List Int) (e : Ending) (w' : World) : Prop := ∃ v', e = .returned v' ∧ w'.ownsRow w0.heap.size 5 1 v' r.length (nums .u8 r) ∧ Below w0.heap.size w0 w'
theorem info_u8 : (Tryd.prog.info? 5).map (fun i => (i.zero, i.size, i.bytes)) = some (some (.int .u8 0), 1, 1) := by kernel_rfl
theorem blw_cell {w0 w : World} {b o : Nat} {v : Value} (h : Below w0.heap.size w0 w) (hc : w0.cell? ⟨b, o, none⟩ = some v) : w.cell? ⟨b, o, none⟩ = some v := (h.cell (World.block_lt_of_cell? w0 _ hc)).trans hc
set_option maxHeartbeats 2000000 in
set_option maxRecDepth 100000 in
theorem mar_num (s : ByteArray) (b o : Nat) (w0 w : World) (v : Value) (xs : List Int) (h4 : w0.cell? ⟨b, o + 4, none⟩ = some (.int .i64 4)) (h3 : w0.cell? ⟨b, o + 3, none⟩ = some (.string s)) (hB : Below w0.heap.size w0 w) (ho : w.ownsRow w0.heap.size 5 1 v xs.length (nums .u8 xs)) (hl : xs.length + s.size < 140737488355328) : Calls Tryd.prog 28 #[.pointer (some ⟨b, o, none⟩), v] w (MP w0 (xs ++ bytesOf s)) := by
 obtain ⟨A0, q0, rfl⟩ := Go.Proofs.YtnajijaachgipaaDoorW.PrintWords.own_slice ho; have c4 := blw_cell hB h4; have c3 := blw_cell hB h3; have HO := Aside0.mk ho; have HB := Aside0.mk hB; clear ho hB; go_enter Tryd.func28, Tryd.ntmps28
 go_wp2_with (first | ((with_reducible refine gate_builtin (b := .append) (xs := #[_, _]) rfl ?_); at_builtin; refine print_append_str (w0 := w0) w0.heap.size rfl _ _ 47 9 5 rfl Tryd.underlying47 Tryd.underlying9 info_u8 _ xs s rfl rfl HO.out HB.out HB.out.size (by (try simp only [List.length_append, List.length_singleton, bytesOf_length]); omega) ?_; intro v1 w1 hown hb hg; obtain ⟨x1, hz⟩ : ∃ z, z = xs ++ bytesOf s := ⟨_, rfl⟩; rw [← hz] at hown; have hn : x1.length ≤ xs.length + s.size := (by rw [hz]; simp only [List.length_append, List.length_singleton, bytesOf_length] <;> omega); have HZx1 := Aside0.mk hz; clear hz; obtain ⟨A1, q1, rfl⟩ := Go.Proofs.YtnajijaachgipaaDoorW.PrintWords.own_slice hown; clear HO HB; have HO := Aside0.mk hown; have HB := Aside0.mk hb; have c4 := blw_cell hb h4; have c3 := blw_cell hb h3; (try have ck := blw_cell hb hk0); (try have cp := blw_cell hb hp0); clear hown hb hg))
 go_ret
 have hz := HZx1.out
 subst hz
 exact ⟨_, rfl, HO.out, HB.out⟩
theorem wrap_next {j n : Nat} (h : n < 140737488355328) (h0 : j < n) : wrap64 ((j : Int) + 1) = ((j + 1 : Nat) : Int) := by unfold wrap64; omega
structure AL (w0 : World) (xs : List Int) (ts : List FT) (kq j : Nat) (A : Option Addr) (q : Nat) (ys : List Int) (wr : World) : Prop where
 own : wr.ownsRow w0.heap.size 5 1 (.slice A ys.length q) ys.length (nums .u8 ys)
 blw : Below w0.heap.size w0 wr
 num : j + kq = ts.length
 eq : ys ++ txtA (ts.drop j) = xs ++ 91 :: txtA ts
/-! ### objects -/
theorem txtO_cons (k : ByteArray) (ks : List ByteArray) (t : FT) (ts : List FT) (h : ts ≠ []) : txtO (k :: ks) (t :: ts) = 34 :: (bytesOf k ++ 34 :: 58 :: (txt t ++ 44 :: txtO ks ts)) := by
 cases ts with
 | nil => exact absurd rfl h
 | cons a l => rw [txtO]; rfl
theorem txtO_one (k : ByteArray) (ks : List ByteArray) (t : FT) : txtO (k :: ks) [t] = 34 :: (bytesOf k ++ 34 :: 58 :: txt t) := by
 rw [txtO]; rfl
structure OL (w0 : World) (xs : List Int) (ks : List ByteArray) (ts : List FT) (kq j : Nat) (A : Option Addr) (q : Nat) (ys : List Int) (wr : World) : Prop where
 own : wr.ownsRow w0.heap.size 5 1 (.slice A ys.length q) ys.length (nums .u8 ys)
 blw : Below w0.heap.size w0 wr
 num : j + kq = ts.length
 eq : ys ++ txtO (ks.drop j) (ts.drop j) = xs ++ 123 :: txtO ks ts
/-! ### all -/
end FJ
end Go.Proofs.YtnajijaachgipaaDoor.PT
end
section
namespace Go.Proofs.YtnajijaachgipaaDoor.PT
open Go.RowKit Go.Proofs.YtnajijaachgipaaDoor.J Go.Proofs.YtnajijaachgipaaDoorW.PrintWords Go.Proofs.YtnajijaachgipaaDoorW.PrintLast Go.Proofs.YtnajijaachgipaaDoorW.PrintMore Go.Proofs.YtnajijaachgipaaDoor.H
set_option linter.unusedVariables false
set_option linter.unusedSimpArgs false
namespace FJ
/-- The two errors of strconv that stand in variables. -/
def Gl (w : World) : Prop := ∃ (te6 te7 : TypeId) (pe6 pe7 : Value), w.cell? ⟨0, 0, none⟩ = some (.iface te6 pe6) ∧ w.cell? ⟨1, 0, none⟩ = some (.iface te7 pe7)
theorem Gl.below {w W : World} (h : Gl w) (hb : Below w.heap.size w W) : Gl W := by
 obtain ⟨te6, te7, pe6, pe7, h6, h7⟩ := h
 exact ⟨te6, te7, pe6, pe7, glob hb h6, glob hb h7⟩
theorem Gl.ch {w W : World} {S : Nat → Nat → Prop} (h : Gl w) (hc : Ch w W S) (hS : ∀ b o, S b o → b ≠ 0 ∧ b ≠ 1) : Gl W := by
 obtain ⟨te6, te7, pe6, pe7, h6, h7⟩ := h
 exact ⟨te6, te7, pe6, pe7, (hc.cell _ _ (World.block_lt_of_cell? w _ h6) (fun q => (hS _ _ q).1 rfl)).trans h6, (hc.cell _ _ (World.block_lt_of_cell? w _ h7) (fun q => (hS _ _ q).2 rfl)).trans h7⟩
theorem un_calls (k : Nat) (s u : ByteArray) (h : unU k s = some u) (hs : s.size ≤ 100000) (w : World) (hg : Gl w) : Calls Tryd.prog 64 #[.string s] w fun e w' => e = .returned (.string u) ∧ Below w.heap.size w w' := by
 unfold unU at h
 cases hi : ix 92 (bytesOf s) with
 | none =>
  rw [hi] at h
  obtain rfl := Option.some.inj h
  exact un_none _ hi w
 | some n =>
  rw [hi] at h
  obtain ⟨l, hl, hx⟩ := Option.bind_eq_some_iff.mp h
  obtain rfl := Option.some.inj hx
  obtain ⟨te6, te7, pe6, pe7, h6, h7⟩ := hg
  exact un_some k n s l hi hs hl w te6 te7 pe6 pe7 h6 h7
set_option maxHeartbeats 2000000 in
set_option maxRecDepth 100000 in
theorem get_nil (b o : Nat) (w : World) : Calls Tryd.prog 85 #[.pointer (some ⟨b, o, none⟩), .slice none 0 0] w fun e w' => e = .returned (.pointer (some ⟨b, o, none⟩)) ∧ w' = w := by
 go_enter Tryd.func85, Tryd.ntmps85
 go_wp2_with (fail)
 go_loopg [0, 13] 0 (fun kq v0 v13 wr => v0 = .pointer (some ⟨b, o, none⟩) ∧ v13 = .int .i64 0 ∧ wr = w)
 case atStart => exact ⟨rfl, rfl, rfl⟩
 case round =>
  obtain ⟨rfl, rfl, rfl⟩ := hrel
  go_wp2
  go_ret
  exact ⟨rfl, rfl⟩
set_option maxHeartbeats 2000000 in
set_option maxRecDepth 100000 in
theorem type_other (b o : Nat) (k : Int) (hk : k ≠ 7) (w : World) (h4 : w.cell? ⟨b, o + 4, none⟩ = some (.int .i64 k)) : Calls Tryd.prog 40 #[.pointer (some ⟨b, o, none⟩)] w fun e w' => e = .returned (.int .i64 k) ∧ w' = w := by
 have hkb : (k == 7) = false := beq_eq_false_iff_ne.2 hk
 go_enter Tryd.func40, Tryd.ntmps40
 go_wp2
 go_ret
 exact ⟨rfl, rfl⟩
/-- Two stores into one block. -/
theorem two_set {w : World} {b o p : Nat} {u v : Value} (hs : Soft w b) {x y : Value} (hx : w.cell? ⟨b, o, none⟩ = some x) (hy : w.cell? ⟨b, p, none⟩ = some y) (hn : o ≠ p) :
  w.frozen? ⟨b, o, none⟩ = false ∧ b < w.heap.size ∧ (w.setCell ⟨b, o, none⟩ u).cell? ⟨b, p, none⟩ = some y ∧ (w.setCell ⟨b, o, none⟩ u).frozen? ⟨b, p, none⟩ = false ∧ b < (w.setCell ⟨b, o, none⟩ u).heap.size ∧
  ((w.setCell ⟨b, o, none⟩ u).setCell ⟨b, p, none⟩ v).cell? ⟨b, p, none⟩ = some v ∧ ((w.setCell ⟨b, o, none⟩ u).setCell ⟨b, p, none⟩ v).cell? ⟨b, o, none⟩ = some u ∧ Soft ((w.setCell ⟨b, o, none⟩ u).setCell ⟨b, p, none⟩ v) b ∧
  Ch w ((w.setCell ⟨b, o, none⟩ u).setCell ⟨b, p, none⟩ v) (fun k q => k = b ∧ (q = o ∨ q = p)) := by
 obtain ⟨cur, ty, hc⟩ := hs
 rw [cell_of_row w b o cur ty (0, 0) hc] at hx
 rw [cell_of_row w b p cur ty (0, 0) hc] at hy
 have ho : o < cur.size := (Array.getElem?_eq_some_iff.1 hx).1
 have hp : p < cur.size := (Array.getElem?_eq_some_iff.1 hy).1
 have h1 : (w.setCell ⟨b, o, none⟩ u).heap[b]? = some (.cells (cur.setIfInBounds o u) ty (0, 0)) := by
  rw [setCell_eq_setRow w b o _ ty (0, 0) u hc]
  exact setRow_heap w b _ _ ty (0, 0) hc
 have h2 : ((w.setCell ⟨b, o, none⟩ u).setCell ⟨b, p, none⟩ v).heap[b]? = some (.cells ((cur.setIfInBounds o u).setIfInBounds p v) ty (0, 0)) := by
  rw [setCell_eq_setRow _ b p _ ty (0, 0) v h1]
  exact setRow_heap _ b _ _ ty (0, 0) h1
 refine ⟨by simp [World.frozen?, hc], (Array.getElem?_eq_some_iff.1 hc).1, ?_, by simp [World.frozen?, h1], (Array.getElem?_eq_some_iff.1 h1).1, ?_, ?_, ⟨_, _, h2⟩, ?_⟩
 ·rw [cell_of_row _ b p _ ty (0, 0) h1, Array.getElem?_setIfInBounds_ne hn, hy]
 ·rw [cell_of_row _ b p _ ty (0, 0) h2, Array.getElem?_setIfInBounds_self_of_lt (by simpa using hp)]
 ·rw [cell_of_row _ b o _ ty (0, 0) h2, Array.getElem?_setIfInBounds_ne (Ne.symm hn), Array.getElem?_setIfInBounds_self_of_lt ho]
 exact ((Ch.set hc u).mono (fun _ _ _ e => ⟨e.1, .inl e.2⟩)).comp ((Ch.set h1 v).mono (fun _ _ _ e => (⟨e.1, .inr e.2⟩ : _ ∧ (_ ∨ _)))) (fun _ _ _ e => e)
set_option maxHeartbeats 2000000 in
set_option maxRecDepth 100000 in
theorem type_raw (k : Nat) (s u : ByteArray) (hu : unU k s = some u) (hs : s.size ≤ 100000) (b o : Nat) (w : World) (hg : Gl w) (h4 : w.cell? ⟨b, o + 4, none⟩ = some (.int .i64 7)) (h3 : w.cell? ⟨b, o + 3, none⟩ = some (.string s)) (hf : Soft w b) :
  Calls Tryd.prog 40 #[.pointer (some ⟨b, o, none⟩)] w fun e w' => e = .returned (.int .i64 3) ∧ w'.cell? ⟨b, o + 4, none⟩ = some (.int .i64 3) ∧ w'.cell? ⟨b, o + 3, none⟩ = some (.string u) ∧ Soft w' b ∧ Ch w w' (fun k q => k = b ∧ (q = o + 3 ∨ q = o + 4)) := by
 have HU := Aside0.mk hu
 have HS := Aside0.mk hs
 have HG := Aside0.mk hg
 have HF := Aside0.mk hf
 have H3 := Aside0.mk h3
 have H4 := Aside0.mk h4
 clear hu hs hg hf
 go_enter Tryd.func40, Tryd.ntmps40
 go_wp2_with (go_at_call 64; refine (un_calls k s u HU.out HS.out _ HG.out).mono ?_; rintro e w1 ⟨rfl, hd⟩; have c3 := blw_cell hd H3.out; have c4 := blw_cell hd H4.out; obtain ⟨f3, l3, k4, f4, l4, k5, k6, sf, hch⟩ := two_set (u := .string u) (v := .int .i64 3) (HF.out.of (hd.block b (HF.out.ok (o := 0)).2)) c3 c4 (by omega : o + 3 ≠ o + 4); have HC := Aside0.mk ((Ch.of_below hd (fun k q => k = b ∧ (q = o + 3 ∨ q = o + 4))).comp hch (fun _ _ _ e => e)); have HSF := Aside0.mk sf; have K5 := Aside0.mk k6; clear hch hd sf k6)
 go_ret
 exact ⟨rfl, k5, K5.out, HSF.out, HC.out⟩
set_option maxHeartbeats 2000000 in
set_option maxRecDepth 100000 in
theorem getobj (b o : Nat) (w : World) (h4 : w.cell? ⟨b, o + 4, none⟩ = some (.int .i64 1)) : Calls Tryd.prog 60 #[.pointer (some ⟨b, o, none⟩), .slice none 0 0] w fun e w' => e = .returned (.pointer (some ⟨b, o, none⟩)) ∧ w' = w := by
 go_enter Tryd.func60, Tryd.ntmps60
 go_wp2_with (go_at_call 85; refine (get_nil b o _).mono ?_; rintro e w1 ⟨rfl, rfl⟩)
 go_ret
 exact ⟨rfl, rfl⟩
set_option maxHeartbeats 2000000 in
set_option maxRecDepth 100000 in
theorem getarr (b o : Nat) (v : Value) (w : World) (h4 : w.cell? ⟨b, o + 4, none⟩ = some (.int .i64 2)) (h2 : w.cell? ⟨b, o + 2, none⟩ = some v) (hv : v = .slice none 0 0 ∨ ∃ A n c, v = .slice A n c) : Calls Tryd.prog 62 #[.pointer (some ⟨b, o, none⟩), .slice none 0 0] w fun e w' => e = .returned v ∧ w' = w := by
 have hv2 : ∃ A n c, v = .slice A n c := by
  rcases hv with rfl | h
  ·exact ⟨_, _, _, rfl⟩
  exact h
 obtain ⟨A, n, c, rfl⟩ := hv2
 clear hv
 go_enter Tryd.func62, Tryd.ntmps62
 go_wp2_with (go_at_call 85; refine (get_nil b o _).mono ?_; rintro e w1 ⟨rfl, rfl⟩)
 go_ret
 exact ⟨rfl, rfl⟩
set_option maxHeartbeats 2000000 in
set_option maxRecDepth 100000 in
theorem getstr (b o : Nat) (u : ByteArray) (hu : u.size ≤ 100000) (w : World) (h4 : w.cell? ⟨b, o + 4, none⟩ = some (.int .i64 3)) (h3 : w.cell? ⟨b, o + 3, none⟩ = some (.string u)) : Calls Tryd.prog 63 #[.pointer (some ⟨b, o, none⟩), .slice none 0 0] w fun e w' => ∃ g cap : Nat, e = .returned (.slice (some ⟨g, 0, none⟩) u.size cap) ∧ MB w' 5 g cap (bytesOf u) ∧ Below w.heap.size w w' := by
 have HU := Aside0.mk hu
 have H3 := Aside0.mk h3
 clear hu
 go_enter Tryd.func63, Tryd.ntmps63
 go_wp2_with (first
  | (go_at_call 85; refine (get_nil b o _).mono ?_; rintro e w1 ⟨rfl, rfl⟩)
  | (go_at_call 40; refine (type_other b o 3 (by decide) _ h4).mono ?_; rintro e w2 ⟨rfl, rfl⟩)
  | (go_at_call 86; refine (s2b_calls u HU.out _).mono ?_; rintro e w3 ⟨g, cap, rfl, hm, hb, hg⟩; have HM := Aside0.mk hm; have HB := Aside0.mk hb; clear hm hb hg))
 go_ret
 exact ⟨_, _, rfl, HM.out, HB.out⟩
end FJ
end Go.Proofs.YtnajijaachgipaaDoor.PT
end
section
namespace Go.Proofs.YtnajijaachgipaaDoor.PT
open Go.RowKit Go.Proofs.YtnajijaachgipaaDoor.J Go.Proofs.YtnajijaachgipaaDoorW.PrintWords Go.Proofs.YtnajijaachgipaaDoorW.PrintLast Go.Proofs.YtnajijaachgipaaDoorW.PrintMore Go.Proofs.YtnajijaachgipaaDoor.H
set_option linter.unusedVariables false
set_option linter.unusedSimpArgs false
namespace FJ
/-! ### sizes -/
theorem oneU_u (s : ByteArray) : (oneU 117 s).1.length + (oneU 117 s).2.size ≤ 2 + s.size := by
 unfold oneU
 rw [if_neg (by decide), if_neg (by decide), if_neg (by decide), if_neg (by decide), if_neg (by decide), if_neg (by decide), if_neg (by decide), if_neg (by decide), if_pos rfl]
 by_cases t4 : s.size < 4
 ·rw [if_pos t4]; simp
 rw [if_neg t4]
 have h4 : (s.extract 4 s.size).size = s.size - 4 := suf_size s 4
 have hx : (s.extract 0 4).size = 4 := pre_sz (by omega)
 cases u4 (s.extract 0 4) with
 | none => simp
 | some x =>
  simp only
  have hen := encode_size x
  by_cases hs : sur x = false
  ·rw [if_pos hs]
   simp only [bytesOf_length, h4]
   omega
  rw [if_neg hs]
  by_cases hc : (s.extract 4 s.size).size < 6 ∨ bt (s.extract 4 s.size) 0 ≠ 92 ∨ bt (s.extract 4 s.size) 1 ≠ 117
  ·rw [if_pos hc]
   simp only [List.length_append, List.length_cons, List.length_nil, bytesOf_length, h4, hx]
   omega
  rw [if_neg hc]
  have h6 : ¬ (s.extract 4 s.size).size < 6 := fun h => hc (.inl h)
  cases u4 ((s.extract 4 s.size).extract 2 6) with
  | none =>
   simp only [List.length_append, List.length_cons, List.length_nil, bytesOf_length, h4, hx]
   omega
  | some y =>
   have hen := encode_size (dr x y)
   have h7 : ((s.extract 4 s.size).extract 6 (s.extract 4 s.size).size).size = (s.extract 4 s.size).size - 6 := suf_size _ 6
   simp only [bytesOf_length]
   rw [h7, h4]
   omega
theorem oneU_size (c : Int) (s : ByteArray) : (oneU c s).1.length + (oneU c s).2.size ≤ 2 + s.size := by
 by_cases h : c = 117
 ·rw [h]; exact oneU_u s
 unfold oneU
 rw [if_neg h]
 repeat' split
 all_goals (simp only [List.length_cons, List.length_nil]; omega)
theorem loopU_size : ∀ (k : Nat) (out : List Int) (s : ByteArray) (l : List Int), loopU k out s = some l → l.length ≤ out.length + 1 + s.size
 | 0, _, _, _, h => by cases h
 | k + 1, out, s, l, h => by
  rw [loopU] at h
  by_cases h0 : s.size = 0
  ·rw [if_pos h0] at h
   obtain rfl := Option.some.inj h
   omega
  rw [if_neg h0] at h
  have ho := oneU_size (bt s 0) (s.extract 1 s.size)
  rw [suf_size] at ho
  obtain ⟨o, hoo⟩ : ∃ o, o = oneU (bt s 0) (s.extract 1 s.size) := ⟨_, rfl⟩
  rw [← hoo] at h ho
  cases hi : ix 92 (bytesOf o.2) with
  | none =>
   rw [hi] at h
   obtain rfl := Option.some.inj h
   simp only [List.length_append, bytesOf_length]
   omega
  | some n =>
   rw [hi] at h
   have hn := (ix_some hi).1
   rw [bytesOf_length] at hn
   have := loopU_size k _ _ l h
   rw [suf_size] at this
   simp only [List.length_append, bytesOf_length, pre_sz (Nat.le_of_lt hn)] at this
   omega
theorem unU_size {k : Nat} {s u : ByteArray} (h : unU k s = some u) : u.size ≤ s.size := by
 unfold unU at h
 cases hi : ix 92 (bytesOf s) with
 | none =>
  rw [hi] at h
  obtain rfl := Option.some.inj h
  exact Nat.le_refl _
 | some n =>
  rw [hi] at h
  obtain ⟨l, hl, hx⟩ := Option.bind_eq_some_iff.mp h
  obtain rfl := Option.some.inj hx
  have hn := (ix_some hi).1
  rw [bytesOf_length] at hn
  have := loopU_size k _ _ l hl
  rw [suf_size, List.length_take, bytesOf_length] at this
  rw [strOfNums_size]
  omega
/-! ### the names -/
def unL (k : Nat) : List ByteArray → Option (List ByteArray)
 | [] => some []
 | s :: l => if s.size ≤ 100000 then (unU k s).bind fun u => (unL k l).bind fun us => some (u :: us) else none
theorem unL_get : ∀ {k : Nat} {ks us : List ByteArray}, unL k ks = some us → us.length = ks.length ∧ ∀ (i : Nat) (s : ByteArray), ks[i]? = some s → s.size ≤ 100000 ∧ ∃ u, us[i]? = some u ∧ unU k s = some u
 | k, [], us, h => by
  obtain rfl := Option.some.inj h
  exact ⟨rfl, fun i s h => by simp at h⟩
 | k, s :: l, us, h => by
  rw [unL] at h
  split at h
  case isFalse => cases h
  rename_i hs
  obtain ⟨u, hu, h⟩ := Option.bind_eq_some_iff.mp h
  obtain ⟨us', hl, h⟩ := Option.bind_eq_some_iff.mp h
  obtain rfl := Option.some.inj h
  obtain ⟨h1, h2⟩ := unL_get hl
  refine ⟨by rw [List.length_cons, List.length_cons, h1], fun i t ht => ?_⟩
  cases i with
  | zero =>
   obtain rfl := Option.some.inj ht
   exact ⟨hs, u, rfl, hu⟩
  | succ i => exact h2 i t (by simpa using ht)
/-- One store. -/
theorem one_set {w : World} {b o : Nat} {u : Value} (hs : Soft w b) {x : Value} (hx : w.cell? ⟨b, o, none⟩ = some x) :
  w.frozen? ⟨b, o, none⟩ = false ∧ b < w.heap.size ∧ (w.setCell ⟨b, o, none⟩ u).cell? ⟨b, o, none⟩ = some u ∧ Soft (w.setCell ⟨b, o, none⟩ u) b ∧ Ch w (w.setCell ⟨b, o, none⟩ u) (fun k q => k = b ∧ q = o) := by
 obtain ⟨cur, ty, hc⟩ := hs
 rw [cell_of_row w b o cur ty (0, 0) hc] at hx
 have ho : o < cur.size := (Array.getElem?_eq_some_iff.1 hx).1
 have h1 : (w.setCell ⟨b, o, none⟩ u).heap[b]? = some (.cells (cur.setIfInBounds o u) ty (0, 0)) := by
  rw [setCell_eq_setRow w b o _ ty (0, 0) u hc]
  exact setRow_heap w b _ _ ty (0, 0) hc
 exact ⟨by simp [World.frozen?, hc], (Array.getElem?_eq_some_iff.1 hc).1, by rw [cell_of_row _ b o _ ty (0, 0) h1, Array.getElem?_setIfInBounds_self_of_lt ho], ⟨_, _, h1⟩, Ch.set hc u⟩
structure KL (w wr : World) (ad n : Nat) (ks us : List ByteArray) (j : Nat) : Prop where
 ch : Ch w wr (fun k q => k = ad ∧ ∃ i, i < n ∧ q = i * 2)
 soft : Soft wr ad
 gl : Gl wr
 done : ∀ (i : Nat) (u : ByteArray), i < j → us[i]? = some u → wr.cell? ⟨ad, i * 2, none⟩ = some (.string u)
 todo : ∀ (i : Nat) (s : ByteArray), j ≤ i → ks[i]? = some s → wr.cell? ⟨ad, i * 2, none⟩ = some (.string s)
theorem KL.step {w wr w1 : World} {ad n : Nat} {ks us : List ByteArray} {j : Nat} (h : KL w wr ad n ks us j) (hb : Below wr.heap.size wr w1) (hj : j < n) (hk : ks.length = n) {u : ByteArray} (hu : us[j]? = some u) (hga : ad ≠ 0 ∧ ad ≠ 1) :
  w1.frozen? ⟨ad, j * 2, none⟩ = false ∧ ad < w1.heap.size ∧ (∃ x, w1.cell? ⟨ad, j * 2, none⟩ = some x) ∧ KL w (w1.setCell ⟨ad, j * 2, none⟩ (.string u)) ad n ks us (j + 1) := by
 have hs := List.getElem?_eq_getElem (l := ks) (i := j) (by omega)
 have c0 := blw_cell hb (h.todo j _ (Nat.le_refl _) hs)
 obtain ⟨f, l, c, sf, hch⟩ := one_set (u := .string u) (h.soft.of (hb.block ad (h.soft.ok (o := 0)).2)) c0
 have h01 : Ch wr (w1.setCell ⟨ad, j * 2, none⟩ (.string u)) (fun k q => k = ad ∧ q = j * 2) := (Ch.of_below hb (fun k q => k = ad ∧ q = j * 2)).comp hch (fun _ _ _ e => e)
 have hlt := (h.soft.ok (o := 0)).2
 refine ⟨f, l, ⟨_, c0⟩, ⟨h.ch.comp h01 (fun k q _ e => ⟨e.1, j, hj, e.2⟩), sf, ?_, ?_, ?_⟩⟩
 ·exact h.gl.ch h01 (fun b o e => by rw [e.1]; exact hga)
 ·intro i v hi hv
  by_cases e : i = j
  ·subst e
   rw [hu] at hv
   obtain rfl := Option.some.inj hv
   exact c
  exact (h01.cell _ _ hlt (fun q => by omega)).trans (h.done i v (by omega) hv)
 intro i s hi hs
 exact (h01.cell _ _ hlt (fun q => by omega)).trans (h.todo i s (by omega) hs)
set_option maxHeartbeats 2000000 in
set_option maxRecDepth 100000 in
theorem unkeys (k : Nat) (ks us : List ByteArray) (hus : unL k ks = some us) (b o ad c : Nat) (w : World) (hg : Gl w) (hn : 0 < ks.length) (hl : ks.length ≤ 1000000) (h1 : w.cell? ⟨b, o + 1, none⟩ = some (.bool false)) (h0 : w.cell? ⟨b, o, none⟩ = some (.slice (some ⟨ad, 0, none⟩) ks.length c)) (hf : Soft w b) (hfa : Soft w ad) (hab : ad ≠ b) (hga : ad ≠ 0 ∧ ad ≠ 1)
  (hs : ∀ (j : Nat) (s : ByteArray), ks[j]? = some s → w.cell? ⟨ad, j * 2, none⟩ = some (.string s)) :
  Calls Tryd.prog 106 #[.pointer (some ⟨b, o, none⟩)] w fun e w' => e = .returned (.tuple #[]) ∧ (∀ (i : Nat) (u : ByteArray), us[i]? = some u → w'.cell? ⟨ad, i * 2, none⟩ = some (.string u)) ∧ Ch w w' (fun k q => (k = ad ∧ ∃ i, i < ks.length ∧ q = i * 2) ∨ (k = b ∧ q = o + 1)) := by
 have HK := Aside0.mk hus
 have HG := Aside0.mk hg
 have HF := Aside0.mk hf
 have HFA := Aside0.mk hfa
 have H1 := Aside0.mk h1
 have H0 := Aside0.mk h0
 have HS := Aside0.mk hs
 have HGA := Aside0.mk hga
 have HAB := Aside0.mk hab
 have HL := Aside0.mk hl
 have HN := Aside0.mk hn
 have hb0 := (hf.ok (o := 0)).2
 have HBL := Aside0.mk hb0
 clear hus hg hf hfa hs hga hab hb0
 go_enter Tryd.func106, Tryd.ntmps106
 go_wp2
 go_loopg [3, 15] ks.length (fun kq v3 v15 wr => ∃ j : Nat, v15 = .int .i64 (j : Int) ∧ j + kq = ks.length ∧ Aside0 (KL w wr ad ks.length ks us j))
 case atStart => exact ⟨0, rfl, by omega, ⟨⟨Ch.refl _ _, HFA.out, HG.out, fun i u hi => by omega, fun i s _ h => HS.out i s h⟩⟩⟩
 case round =>
  obtain ⟨j, rfl, hj, HKL⟩ := hrel
  obtain ⟨hlen, hget⟩ := unL_get HK.out
  have HGET := Aside0.mk hget
  clear hget
  cases gk with
  | zero =>
   have hjn : j = ks.length := by omega
   have hd : decide ((j : Int) < (ks.length : Int)) = false := decide_eq_false (by omega)
   have hc1 : wr.cell? ⟨b, o + 1, none⟩ = some (.bool false) := (HKL.out.ch.cell b (o + 1) HBL.out (fun q => HAB.out q.1.symm)).trans H1.out
   obtain ⟨f, l, hc2, sf, hch⟩ := one_set (u := .bool true) (HF.out.ch HKL.out.ch) hc1
   have HC := Aside0.mk hch
   clear hch sf hlen hj h1 h0
   go_wp2
   first | go_end0 | ((try simp only [Exit.inBlock, Exit.then]); refine bodyPost_ret (results_none rfl _ _ _) rfl ?_)
   refine ⟨rfl, fun i u hu => ?_, ?_⟩
   ·have hi : i < ks.length := by
     have := (List.getElem?_eq_some_iff.1 hu).1
     rw [(unL_get HK.out).1] at this
     exact this
    have hx := HKL.out.done i u (by omega) hu
    exact (HC.out.cell ad (i * 2) (World.block_lt_of_cell? wr _ hx) (fun q => HAB.out q.1)).trans hx
   exact (HKL.out.ch.mono (fun _ _ _ e => (.inl e : _ ∨ _))).comp HC.out (fun _ _ _ e => .inr e)
  | succ q =>
   have hjl : j < ks.length := by omega
   have hd : decide ((j : Int) < (ks.length : Int)) = true := decide_eq_true (by omega)
   have hj0 : (0 : Int) ≤ (j : Int) := by omega
   have hj1 : (j : Int) < (ks.length : Int) := by omega
   have hw2 := wrap_next (j := j) (n := ks.length) (by omega) hjl
   obtain ⟨s, hs⟩ : ∃ s, ks[j]? = some s := ⟨_, List.getElem?_eq_getElem hjl⟩
   obtain ⟨hsz, u, hu, huu⟩ := HGET.out j s hs
   have HSZ := Aside0.mk hsz
   have HUU := Aside0.mk huu
   have HU := Aside0.mk hu
   have hcs := HKL.out.todo j s (Nat.le_refl _) hs
   have HJ := Aside0.mk hj
   clear hsz huu hu hs hlen h1 h0 hj
   go_wp2_with (go_at_call 64; refine (un_calls k s u HUU.out HSZ.out _ HKL.out.gl).mono ?_; rintro e w1 ⟨rfl, hd⟩; obtain ⟨f, l, ⟨x, hcx⟩, hkl⟩ := HKL.out.step hd hjl rfl HU.out HGA.out; have HKL2 := Aside0.mk hkl; clear hkl hd)
   go_roundg q
   case measure => exact Nat.lt_succ_self _
   case rel => exact ⟨j + 1, rfl, by have := HJ.out; omega, HKL2⟩
end FJ
end Go.Proofs.YtnajijaachgipaaDoor.PT
end
section
namespace Go.Proofs.YtnajijaachgipaaDoor.PT
open Go.RowKit Go.Proofs.YtnajijaachgipaaDoor.J Go.Proofs.YtnajijaachgipaaDoorW.PrintWords Go.Proofs.YtnajijaachgipaaDoorW.PrintLast Go.Proofs.YtnajijaachgipaaDoorW.PrintMore Go.Proofs.YtnajijaachgipaaDoor.H
set_option linter.unusedVariables false
set_option linter.unusedSimpArgs false
namespace FJ
mutual
def nd : Nat → FT → Option S38
 | 0, _ => none
 | k + 1, .mk q s ks ts =>
  if q = 7 then (if s.size ≤ 100000 then (unU k s).bind fun u => some ⟨4, u, [], []⟩ else none)
  else if q = 1 then (if ts.length ≤ 1000000 then (unL k ks).bind fun us => (ndL k ts).bind fun xs => some ⟨6, ByteArray.empty, us, xs⟩ else none)
  else if q = 2 then (if ts.length ≤ 1000000 then (ndL k ts).bind fun xs => some ⟨5, ByteArray.empty, [], xs⟩ else none)
  else if q = 4 then (if s.size ≤ 100000 then some ⟨3, s, [], []⟩ else none)
  else if q = 5 then some ⟨2, ByteArray.empty, [], []⟩
  else if q = 6 then some ⟨1, ByteArray.empty, [], []⟩
  else some ⟨0, ByteArray.empty, [], []⟩
def ndL : Nat → List FT → Option (List S38)
 | _, [] => some []
 | k, t :: ts => (nd k t).bind fun x => (ndL k ts).bind fun xs => some (x :: xs)
end
theorem ndL_get {k : Nat} : ∀ {ts : List FT} {xs : List S38}, ndL k ts = some xs → xs.length = ts.length ∧ ∀ (i : Nat) (t : FT), ts[i]? = some t → ∃ x, xs[i]? = some x ∧ nd k t = some x
 | [], xs, h => by
  rw [ndL] at h
  obtain rfl := Option.some.inj h
  exact ⟨rfl, fun i t h => by simp at h⟩
 | t :: ts, xs, h => by
  rw [ndL] at h
  obtain ⟨x, hx, h⟩ := Option.bind_eq_some_iff.mp h
  obtain ⟨ys, hy, h⟩ := Option.bind_eq_some_iff.mp h
  obtain rfl := Option.some.inj h
  obtain ⟨h1, h2⟩ := ndL_get hy
  refine ⟨by rw [List.length_cons, List.length_cons, h1], fun i u hu => ?_⟩
  cases i with
  | zero =>
   obtain rfl := Option.some.inj hu
   exact ⟨x, rfl, hx⟩
  | succ i => exact h2 i u (by simpa using hu)
/-- What a call of fjNode leaves. -/
def NP (w : World) (P : Nat → Nat → Prop) (x : S38) (e : Ending) (w' : World) : Prop := ∃ v2 v3 : Value, e = .returned (.agg #[.int .i64 x.f0, .string x.f1, v2, v3]) ∧ Kd.R Kd.string 9 w' w.heap.size (fun _ => True) v2 x.f2 ∧ Kd.R k38 38 w' w.heap.size (fun k_ => some k_ ≠ (v2 : Value).ownBlock) v3 x.f3 ∧ Ch w w' P
/-- fjNode's contract at k rounds. -/
def NC (k : Nat) : Prop := ∀ (t : FT) (x : S38), nd k t = some x → Made t → ∀ (w : World) (P : Nat → Nat → Prop) (b o : Nat), Lies w P b o t → Gl w → (∀ b o, P b o → b ≠ 0 ∧ b ≠ 1) →
 Calls Tryd.prog 37 #[.pointer (some ⟨b, o, none⟩)] w (NP w P x)
/-- Places of an elder world alone. -/
theorem Lies.old {w : World} {P : Nat → Nat → Prop} {b o : Nat} {t : FT} (h : Lies w P b o t) : Lies w (fun b o => P b o ∧ b < w.heap.size) b o t := by
 induction h with
 | leaf h1 h2 c3 p3 c4 p4 sf => exact .leaf h1 h2 c3 ⟨p3, World.block_lt_of_cell? w _ c3⟩ c4 ⟨p4, World.block_lt_of_cell? w _ c4⟩ sf
 | arr c4 p4 c2 p2 hv hl he R hR hd _ ih => exact .arr c4 ⟨p4, World.block_lt_of_cell? w _ c4⟩ c2 ⟨p2, World.block_lt_of_cell? w _ c2⟩ hv hl (fun j p hp => ⟨(he j p hp).1, (he j p hp).2, World.block_lt_of_cell? w _ (he j p hp).1⟩) (fun j b o => R j b o ∧ b < w.heap.size) (fun j b' o' hr => ⟨⟨(hR j b' o' hr.1).1, hr.2⟩, (hR j b' o' hr.1).2⟩) (fun i j b' o' hij hi hj => hd i j b' o' hij hi.1 hj.1) (fun j p t hp ht => ih j p t hp ht)
 | obj c4 p4 c1 p1 c0 p0 sf hv hl hn hne hs he R hR hd _ ih => exact .obj c4 ⟨p4, World.block_lt_of_cell? w _ c4⟩ c1 ⟨p1, World.block_lt_of_cell? w _ c1⟩ c0 ⟨p0, World.block_lt_of_cell? w _ c0⟩ sf hv hl hn hne (fun j k hk => ⟨(hs j k hk).1, (hs j k hk).2, World.block_lt_of_cell? w _ (hs j k hk).1⟩) (fun j p hp => ⟨(he j p hp).1, (he j p hp).2, World.block_lt_of_cell? w _ (he j p hp).1⟩) (fun j b o => R j b o ∧ b < w.heap.size) (fun j b' o' hr => ⟨⟨(hR j b' o' hr.1).1, hr.2⟩, (hR j b' o' hr.1).2⟩) (fun i j b' o' hij hi hj => hd i j b' o' hij hi.1 hj.1) (fun j p t hp ht => ih j p t hp ht)
/-! ### lists -/
/-- Kids that lie apart, the first j of them visited. -/
structure KV (w0 wr : World) (Q : Nat → Nat → Nat → Prop) (j : Nat) : Prop where
 ch : Ch w0 wr (fun b o => ∃ i, i < j ∧ Q i b o)
 gl : Gl wr
theorem KV.lies {w0 wr : World} {Q : Nat → Nat → Nat → Prop} {j : Nat} (h : KV w0 wr Q j) (hd : ∀ i j b o, i < j → Q i b o → ¬ Q j b o) (hlt : ∀ j b o, Q j b o → b < w0.heap.size) {b o : Nat} {t : FT} (hl : Lies w0 (Q j) b o t) : Lies wr (Q j) b o t :=
 hl.frame (fun _ _ q => q) (fun b o q => h.ch.cell b o (hlt j b o q) (fun ⟨i, hi, qi⟩ => hd i j b o hi qi q)) (fun b o q s => s.ch h.ch)
theorem KV.step {w0 wr w' : World} {Q : Nat → Nat → Nat → Prop} {j : Nat} (h : KV w0 wr Q j) (hc : Ch wr w' (Q j)) (hg : ∀ j b o, Q j b o → b ≠ 0 ∧ b ≠ 1) : KV w0 w' Q (j + 1) :=
 ⟨(h.ch.mono (fun b o _ ⟨i, hi, q⟩ => (⟨i, Nat.lt_succ_of_lt hi, q⟩ : ∃ i, i < j + 1 ∧ Q i b o))).comp hc (fun b o _ q => ⟨j, Nat.lt_succ_self _, q⟩), h.gl.ch hc (fun b o q => hg j b o q)⟩
theorem KV.grown {w0 wr w' : World} {Q : Nat → Nat → Nat → Prop} {j : Nat} (h : KV w0 wr Q j) {row : Option Nat} (hg : wr.grownBy w' row) (hr : ∀ r, row = some r → w0.heap.size ≤ r) (hgl : Gl w0) (hgg : ∀ j b o, Q j b o → b ≠ 0 ∧ b ≠ 1) : KV w0 w' Q j := ⟨h.ch.grown hg hr, hgl.ch (h.ch.grown hg hr) (fun b o ⟨i, _, q⟩ => hgg i b o q)⟩
end FJ
end Go.Proofs.YtnajijaachgipaaDoor.PT
end
section
namespace Go.Proofs.YtnajijaachgipaaDoor.PT
open Go.RowKit Go.Proofs.YtnajijaachgipaaDoor.J Go.Proofs.YtnajijaachgipaaDoorW.PrintWords Go.Proofs.YtnajijaachgipaaDoorW.PrintLast Go.Proofs.YtnajijaachgipaaDoorW.PrintMore Go.Proofs.YtnajijaachgipaaDoor.H
set_option linter.unusedVariables false
set_option linter.unusedSimpArgs false
namespace FJ
theorem inf_nd : (Tryd.prog.info? 38).map (fun i => (i.zero, i.size, i.bytes)) = some (some (.agg #[.int .i64 0, .string ⟨#[]⟩, .slice none 0 0, .slice none 0 0]), 4, 72) := by kernel_rfl
/-- What was made of a kid, as an element's cells. -/
theorem NP.elem {w w' : World} {P : Nat → Nat → Prop} {x : S38} {v2 v3 : Value} (h2 : Kd.R Kd.string 9 w' w.heap.size (fun _ => True) v2 x.f2) (h3 : Kd.R k38 38 w' w.heap.size (fun k_ => some k_ ≠ (v2 : Value).ownBlock) v3 x.f3) (base : Nat) (hb : base ≤ w.heap.size) :
  k38.M w' base (fun k => w.heap.size ≤ k) x [.int .i64 x.f0, .string x.f1, v2, v3] :=
 k38_mkM w' base _ x (Kd.R_mono (Kd.R_lower (Kd.R_bound h2) hb) (fun k hk => hk.2.1)) (Kd.R_mono (Kd.R_lower (Kd.R_bound h3) hb) (fun k hk => hk.2.1))
structure NLp (w0 wr : World) (Q : Nat → Nat → Nat → Prop) (xs : List S38) (j : Nat) (v : Value) (ys : List S38) : Prop where
 kv : KV w0 wr Q j
 own : Kd.R k38 38 wr w0.heap.size (fun _ => True) v ys
 eq : ys = xs.take j
set_option maxHeartbeats 2000000 in
set_option maxRecDepth 100000 in
theorem nodes_row (k : Nat) (ih : NC k) (ts : List FT) (xs : List S38) (hx : ndL k ts = some xs) (hm : ∀ t ∈ ts, Made t) (ps : List (Nat × Nat)) (hpl : ps.length = ts.length) (hn : ts.length ≤ 1000000) (ad c : Nat) (w0 : World) (Q : Nat → Nat → Nat → Prop) (hQ : ∀ j b o, Q j b o → b ≠ ad) (hd : ∀ i j b o, i < j → Q i b o → ¬ Q j b o) (hlt : ∀ j b o, Q j b o → b < w0.heap.size) (hgg : ∀ j b o, Q j b o → b ≠ 0 ∧ b ≠ 1) (hgl : Gl w0)
  (he : ∀ (j : Nat) (p : Nat × Nat), ps[j]? = some p → w0.cell? ⟨ad, j, none⟩ = some (.pointer (some ⟨p.1, p.2, none⟩)))
  (hk : ∀ (j : Nat) (p : Nat × Nat) (t : FT), ps[j]? = some p → ts[j]? = some t → Lies w0 (Q j) p.1 p.2 t) :
  Calls Tryd.prog 61 #[.slice (some ⟨ad, 0, none⟩) ts.length c] w0 fun e w' => ∃ v, e = .returned v ∧ Kd.R k38 38 w' w0.heap.size (fun _ => True) v xs ∧ KV w0 w' Q ts.length := by
 obtain ⟨hxl, hget⟩ := ndL_get hx
 have IH := Aside0.mk ih
 have HM := Aside0.mk hm
 have HPL := Aside0.mk hpl
 have HN := Aside0.mk hn
 have HQ := Aside0.mk hQ
 have HD := Aside0.mk hd
 have HLT := Aside0.mk hlt
 have HGG := Aside0.mk hgg
 have HE := Aside0.mk he
 have HK := Aside0.mk hk
 have HXL := Aside0.mk hxl
 have HGET := Aside0.mk hget
 have HGL := Aside0.mk hgl
 clear ih hx hm hpl hn hQ hd hlt hgg he hk hxl hget hgl
 go_enter Tryd.func61, Tryd.ntmps61
 go_wp2_with (fail)
 go_loopg [3, 5, 8] ts.length (fun kq v3 v5 v8 wr => ∃ (j : Nat) (ys : List S38), v8 = .int .i64 (j : Int) ∧ j + kq = ts.length ∧ Aside0 (NLp w0 wr Q xs j v3 ys))
 case atStart => exact ⟨0, [], rfl, by omega, ⟨⟨⟨Ch.refl _ _, HGL.out⟩, Kd.R_nil _ _ _ _ _, rfl⟩⟩⟩
 case round =>
  obtain ⟨j, ys, rfl, hj, HL⟩ := hrel
  obtain ⟨A3, c3, rfl⟩ := Kd.R_slice HL.out.own
  have HJ := Aside0.mk hj
  cases gk with
  | zero =>
   have hjn : j = ts.length := by omega
   have hd : decide ((j : Int) < (ts.length : Int)) = false := decide_eq_false (by omega)
   have HJN := Aside0.mk hjn
   clear hj
   go_wp2
   go_ret
   have hxy : ys = xs := by rw [HL.out.eq, List.take_of_length_le (by have := HXL.out; have := HJN.out; omega)]
   rw [← hxy]
   exact ⟨_, rfl, HL.out.own, by have := HL.out.kv; rw [HJN.out] at this; exact this⟩
  | succ q =>
   have hjl : j < ts.length := by omega
   have hjp : j < ps.length := by have := HPL.out; omega
   obtain ⟨p, hp⟩ : ∃ p, ps[j]? = some p := ⟨_, List.getElem?_eq_getElem hjp⟩
   obtain ⟨t, ht⟩ : ∃ t, ts[j]? = some t := ⟨_, List.getElem?_eq_getElem hjl⟩
   obtain ⟨x, hxj, hnd⟩ := HGET.out j t ht
   have hce := HE.out j p hp
   have hcj := (HL.out.kv.ch.cell ad j (World.block_lt_of_cell? w0 _ hce) (fun ⟨i, _, qi⟩ => HQ.out i _ _ qi rfl)).trans hce
   have hd : decide ((j : Int) < (ts.length : Int)) = true := decide_eq_true (by omega)
   have hj0 : (0 : Int) ≤ (j : Int) := by omega
   have hj1 : (j : Int) < (ts.length : Int) := by omega
   have hw2 := wrap_next (j := j) (n := ts.length) (by have := HN.out; omega) hjl
   have HIH := Aside0.mk (IH.out t x hnd (HM.out t (List.mem_of_getElem? ht)) wr (Q j) p.1 p.2 (HL.out.kv.lies HD.out HLT.out (HK.out j p t hp ht)) HL.out.kv.gl (HGG.out j))
   have HXJ := Aside0.mk hxj
   clear hce hnd hp ht hxj hj
   go_wp2_with (first
    | (go_at_call 37; refine HIH.out.mono ?_; rintro e w1 ⟨v2, v3, rfl, h2, h3, hch⟩; have hsz := HL.out.kv.ch.size; have HEL := Aside0.mk (NP.elem (P := Q j) h2 h3 w0.heap.size hsz); have HO1 := Aside0.mk (Kd.R_mono (ok' := fun _ => True) (Kd.R_step (Kd.R_bound HL.out.own) (fun k hk hlt' => hch.block k hlt' (fun o qo => absurd (HLT.out _ _ _ qo) (Nat.not_lt.2 hk.2.1)))) (fun _ _ => trivial)); have HV1 := Aside0.mk (HL.out.kv.step hch HGG.out); have HSZ := Aside0.mk (show w0.heap.size ≤ w1.heap.size from Nat.le_trans hsz hch.size); have HCH := Aside0.mk hch.size; clear h2 h3 hch hsz)
    | ((with_reducible refine gate_builtin (b := .append) (xs := #[_, _]) rfl ?_); at_builtin; refine Kd.R_append k38 (w0 := w1) w0.heap.size ?hgd ?os ?ox 36 38 (.agg #[.int .i64 0, .string ⟨#[]⟩, .slice none 0 0, .slice none 0 0]) 72 ?ho Tryd.underlying36 inf_nd rfl (by decide) (by decide) _ ys x _ (fun _ => True) (fun k => wr.heap.size ≤ k) ?hs ?hx HEL.out ?hok (fun _ _ => trivial) HO1.out (Below.refl _ _) HSZ.out ?hl ?_; (case hgd => rfl); (case ho => rfl); (case hs => rfl); (case hx => rfl); (case hok => exact fun k hk => ⟨trivial, Kd.fresh' (Kd.R_lt HL.out.own) k hk⟩); (case hl => rw [HL.out.eq, List.length_take]; have := HN.out; omega); intro v4 w4 hr4 hb4 hg4 hat4; have HR4 := Aside0.mk hr4; have HG4 := Aside0.mk hg4; clear hr4 hb4 hg4 hat4))
   go_roundg q
   case measure => exact Nat.lt_succ_self _
   case rel =>
    refine ⟨j + 1, ys ++ [x], by rw [hw2], by have := HJ.out; omega, ⟨⟨?_, HR4.out, ?_⟩⟩⟩
    ·exact HV1.out.grown HG4.out (fun r e => Kd.R_base HL.out.own r e) HGL.out HGG.out
    rw [HL.out.eq, List.take_add_one, HXJ.out]
    rfl
end FJ
end Go.Proofs.YtnajijaachgipaaDoor.PT
end
section
namespace Go.Proofs.YtnajijaachgipaaDoor.PT
open Go.RowKit Go.Proofs.YtnajijaachgipaaDoor.J Go.Proofs.YtnajijaachgipaaDoorW.PrintWords Go.Proofs.YtnajijaachgipaaDoorW.PrintLast Go.Proofs.YtnajijaachgipaaDoorW.PrintMore Go.Proofs.YtnajijaachgipaaDoor.H
set_option linter.unusedVariables false
set_option linter.unusedSimpArgs false
namespace FJ
/-- The Node in the making, in block gn. -/
structure NM (w : World) (gn : Nat) (us : List ByteArray) (xs : List S38) (v2 v3 : Value) : Prop where
 blk : w.heap[gn]? = some (.cells #[.int .i64 6, .string ByteArray.empty, v2, v3] 38 (0, 0))
 keys : Kd.R Kd.string 9 w (gn + 1) (fun _ => True) v2 us
 kids : Kd.R k38 38 w (gn + 1) (fun k_ => some k_ ≠ (v2 : Value).ownBlock) v3 xs
theorem NM.lt {w : World} {gn : Nat} {us : List ByteArray} {xs : List S38} {v2 v3 : Value} (h : NM w gn us xs v2 v3) : gn < w.heap.size := (Array.getElem?_eq_some_iff.1 h.blk).1
theorem chBlw {W0 W1 W2 : World} {S : Nat → Nat → Prop} {B : Nat} (h : Ch W0 W1 S) (hb : Below B W1 W2) (hB : W0.heap.size ≤ B) : Ch W0 W2 S := by
 have hk : ∀ k, k < W0.heap.size → W2.heap[k]? = W1.heap[k]? := fun k hk => hb.block k (Nat.lt_of_lt_of_le hk hB)
 refine ⟨hb.os.trans h.os, hb.tape.trans h.tape, hb.output.trans h.output, Nat.le_trans h.size hb.size, fun k hlt hn => (hk k hlt).trans (h.block k hlt hn), fun k hlt cur ty hc => ?_, fun k o hlt hn => (World.cell?_of_block (hk k hlt)).trans (h.cell k o hlt hn)⟩
 obtain ⟨c1, e1, s1⟩ := h.form k hlt cur ty hc
 exact ⟨c1, (hk k hlt).trans e1, s1⟩
theorem liesBlw {W1 W2 : World} {P : Nat → Nat → Prop} {B b o : Nat} {t : FT} (h : Lies W1 P b o t) (hb : Below B W1 W2) (hP : ∀ b o, P b o → b < B) : Lies W2 P b o t :=
 h.frame (fun _ _ q => q) (fun b o q => World.cell?_of_block (hb.block b (hP b o q))) (fun b o q s => s.of (hb.block b (hP b o q)))
theorem NM.keys_put {w w4 : World} {gn : Nat} {us us' : List ByteArray} {xs : List S38} {v2 v3 v4 : Value} (h : NM w gn us xs v2 v3) (hr4 : Kd.R Kd.string 9 w4 (gn + 1) (fun _ => True) v4 us') (hg4 : w.grownBy w4 v2.ownBlock) (hat : v4.ownBlock = v2.ownBlock ∨ ∃ b, v4.ownBlock = some b ∧ w.heap.size ≤ b) :
  w4.frozen? ⟨gn, 2, none⟩ = false ∧ gn < w4.heap.size ∧ w4.cell? ⟨gn, 2, none⟩ = some v2 ∧ NM (w4.setCell ⟨gn, 2, none⟩ v4) gn us' xs v4 v3 ∧ Below gn w (w4.setCell ⟨gn, 2, none⟩ v4) := by
 have hne : some gn ≠ v2.ownBlock := fun e => by have := Kd.R_base h.keys gn e.symm; omega
 have hb : w4.heap[gn]? = some (.cells #[.int .i64 6, .string ByteArray.empty, v2, v3] 38 (0, 0)) := (hg4.block gn h.lt hne).trans h.blk
 have hb5 : (w4.setCell ⟨gn, 2, none⟩ v4).heap[gn]? = some (.cells #[.int .i64 6, .string ByteArray.empty, v4, v3] 38 (0, 0)) := by
  rw [setCell_eq_setRow w4 gn 2 _ _ (0, 0) v4 hb]
  exact setRow_heap w4 gn _ _ _ (0, 0) hb
 have hk3 : Kd.R k38 38 w4 (gn + 1) (fun k_ => some k_ ≠ v4.ownBlock ∧ gn + 1 ≤ k_) v3 xs := by
  refine Kd.R_mono (Kd.R_step (Kd.R_bound h.kids) (fun k hk hlt => hg4.block k hlt hk.1)) (fun k hk => ⟨?_, hk.2.1⟩)
  rcases hat with e | ⟨b, e, hle⟩
  ·rw [e]; exact hk.1
  rw [e]
  intro q
  have := Option.some.inj q
  have := hk.2.2.1
  omega
 refine ⟨by simp [World.frozen?, hb], (Array.getElem?_eq_some_iff.1 hb).1, by rw [cell_of_row w4 gn 2 _ _ (0, 0) hb]; rfl, ⟨hb5, ?_, ?_⟩, ?_⟩
 ·exact Kd.R_mono (Kd.R_far (p := ⟨gn, 2, none⟩) (Kd.R_bound hr4) (fun k hk => by have := hk.2.1; show k ≠ gn; omega) v4) (fun _ _ => trivial)
 ·exact Kd.R_mono (Kd.R_far (p := ⟨gn, 2, none⟩) hk3 (fun k hk => by have := hk.2; show k ≠ gn; omega) v4) (fun _ hk => hk.1)
 rw [setCell_eq_setRow w4 gn 2 _ _ (0, 0) v4 hb]
 refine ⟨hg4.os, hg4.tape, hg4.output, Nat.le_trans hg4.size (by simp), fun k hk => ?_⟩
 refine (setRow_other _ _ _ _ (by omega)).trans (hg4.block k (Nat.lt_trans hk h.lt) (fun e => ?_))
 have := Kd.R_base h.keys k e.symm
 omega
theorem inf_s : (Tryd.prog.info? 9).map (fun i => (i.zero, i.size, i.bytes)) = some (some (.string ⟨#[]⟩), 1, 16) := by kernel_rfl
theorem NM.drew {w : World} {gn : Nat} {us : List ByteArray} {xs : List S38} {v2 v3 : Value} (h : NM w gn us xs v2 v3) : NM w.drew gn us xs v2 v3 :=
 ⟨h.blk, Kd.R_drew h.keys, Kd.R_drew h.kids⟩
theorem NM.alloc {w : World} {gn : Nat} {us : List ByteArray} {xs : List S38} {v2 v3 : Value} (h : NM w gn us xs v2 v3) (o : Obj) : NM (w.alloc o) gn us xs v2 v3 :=
 ⟨(heap_alloc_old w o h.lt).trans h.blk, Kd.R_alloc h.keys o, Kd.R_alloc h.kids o⟩
theorem NM.ch {w w1 : World} {Q : Nat → Nat → Prop} {gn : Nat} {us : List ByteArray} {xs : List S38} {v2 v3 : Value} (h : NM w gn us xs v2 v3) (hc : Ch w w1 Q) (hq : ∀ b o, Q b o → b < gn) : NM w1 gn us xs v2 v3 :=
 ⟨(hc.block gn h.lt (fun o q => Nat.lt_irrefl _ (hq _ _ q))).trans h.blk, Kd.R_mono (Kd.R_step (Kd.R_bound h.keys) (fun k hk hlt => hc.block k hlt (fun o q => by have := hq _ _ q; have := hk.2.1; omega))) (fun _ _ => trivial), Kd.R_mono (Kd.R_step (Kd.R_bound h.kids) (fun k hk hlt => hc.block k hlt (fun o q => by have := hq _ _ q; have := hk.2.1; omega))) (fun _ hk => hk.1)⟩
abbrev zN : Array Value := #[.int .i64 0, .string ⟨#[]⟩, .slice none 0 0, .slice none 0 0]
/-- An element of a row that the call owns is written over, cell by cell: what the walk needs. -/
structure P4 (w : World) (g n : Nat) (c0 c1 c2 : Value) : Prop where
 a0 : ∃ z, w.cell? ⟨g, n * 4, none⟩ = some z
 f0 : w.frozen? ⟨g, n * 4, none⟩ = false
 a1 : ∃ z, (w.setCell ⟨g, n * 4, none⟩ c0).cell? ⟨g, n * 4 + 1, none⟩ = some z
 f1 : (w.setCell ⟨g, n * 4, none⟩ c0).frozen? ⟨g, n * 4 + 1, none⟩ = false
 a2 : ∃ z, ((w.setCell ⟨g, n * 4, none⟩ c0).setCell ⟨g, n * 4 + 1, none⟩ c1).cell? ⟨g, n * 4 + 2, none⟩ = some z
 f2 : ((w.setCell ⟨g, n * 4, none⟩ c0).setCell ⟨g, n * 4 + 1, none⟩ c1).frozen? ⟨g, n * 4 + 2, none⟩ = false
 a3 : ∃ z, (((w.setCell ⟨g, n * 4, none⟩ c0).setCell ⟨g, n * 4 + 1, none⟩ c1).setCell ⟨g, n * 4 + 2, none⟩ c2).cell? ⟨g, n * 4 + 3, none⟩ = some z
 f3 : (((w.setCell ⟨g, n * 4, none⟩ c0).setCell ⟨g, n * 4 + 1, none⟩ c1).setCell ⟨g, n * 4 + 2, none⟩ c2).frozen? ⟨g, n * 4 + 3, none⟩ = false
 lt : g < w.heap.size
theorem row_put {w : World} {base e g cap n : Nat} {inner zs : List Value} {c0 c1 c2 c3 : Value} (ho : w.ownsRow base e 4 (.slice (some ⟨g, 0, none⟩) (n + 1) cap) (n + 1) (inner ++ zs)) (hi : inner.length = n * 4) (hz : zs.length = 4) :
  P4 w g n c0 c1 c2 ∧ ((((w.setCell ⟨g, n * 4, none⟩ c0).setCell ⟨g, n * 4 + 1, none⟩ c1).setCell ⟨g, n * 4 + 2, none⟩ c2).setCell ⟨g, n * 4 + 3, none⟩ c3).ownsRow base e 4 (.slice (some ⟨g, 0, none⟩) (n + 1) cap) (n + 1) (inner ++ [c0, c1, c2, c3]) ∧ w.grownBy ((((w.setCell ⟨g, n * 4, none⟩ c0).setCell ⟨g, n * 4 + 1, none⟩ c1).setCell ⟨g, n * 4 + 2, none⟩ c2).setCell ⟨g, n * 4 + 3, none⟩ c3) (some g) := by
 rcases ho.2 with ⟨e1, _⟩ | ⟨g', cap', cur, hv, hb, hh, hn, hcm, hsz, htk⟩
 ·cases e1
 injection hv with hv1 hv2 hv3
 injection hv1 with hv1
 injection hv1 with hv1
 subst hv1 hv3
 have hnm : (n + 1) * 4 ≤ cap * 4 := Nat.mul_le_mul_right 4 hn
 have step : ∀ (W : World) (cr : Array Value) (o : Nat) (v : Value), W.heap[g]? = some (.cells cr e (0, 0)) → (W.setCell ⟨g, o, none⟩ v).heap[g]? = some (.cells (cr.setIfInBounds o v) e (0, 0)) := fun W cr o v hW => by
  rw [setCell_eq_setRow W g o _ e (0, 0) v hW]
  exact setRow_heap W g _ _ e (0, 0) hW
 have hh1 := step w cur (n * 4) c0 hh
 have hh2 := step _ _ (n * 4 + 1) c1 hh1
 have hh3 := step _ _ (n * 4 + 2) c2 hh2
 have hh4 := step _ _ (n * 4 + 3) c3 hh3
 have some_ : ∀ (W : World) (cr : Array Value) (o : Nat), W.heap[g]? = some (.cells cr e (0, 0)) → o < cr.size → (∃ z, W.cell? ⟨g, o, none⟩ = some z) ∧ W.frozen? ⟨g, o, none⟩ = false := fun W cr o hW ho => ⟨⟨cr[o], by rw [cell_of_row W g o cr e (0, 0) hW, Array.getElem?_eq_getElem ho]⟩, by simp [World.frozen?, hW]⟩
 obtain ⟨a0, f0⟩ := some_ w cur (n * 4) hh (by omega)
 obtain ⟨a1, f1⟩ := some_ _ _ (n * 4 + 1) hh1 (by simp only [Array.size_setIfInBounds]; omega)
 obtain ⟨a2, f2⟩ := some_ _ _ (n * 4 + 2) hh2 (by simp only [Array.size_setIfInBounds]; omega)
 obtain ⟨a3, f3⟩ := some_ _ _ (n * 4 + 3) hh3 (by simp only [Array.size_setIfInBounds]; omega)
 refine ⟨⟨a0, f0, a1, f1, a2, f2, a3, f3, (Array.getElem?_eq_some_iff.1 hh).1⟩, ⟨by rw [List.length_append, hi]; simp; omega, .inr ⟨g, cap, _, rfl, hb, hh4, hn, hcm, by simp only [Array.size_setIfInBounds]; exact hsz, ?_⟩⟩, ⟨rfl, rfl, rfl, by simp [World.setCell], fun k _ hk => ?_⟩⟩
 ·have hti : cur.toList.take (n * 4) = inner := by
   have := congrArg (fun l => l.take (n * 4)) htk
   simp only [List.take_take, List.take_left' hi] at this
   rw [Nat.min_eq_left (by omega)] at this
   exact this
  apply List.ext_getElem?
  intro q
  simp only [Array.toList_setIfInBounds]
  by_cases q4 : q < n * 4
  ·rw [List.getElem?_append_left (by omega), ← hti, List.getElem?_take_of_lt (by omega), List.getElem?_take_of_lt q4, List.getElem?_set_ne (by omega), List.getElem?_set_ne (by omega), List.getElem?_set_ne (by omega), List.getElem?_set_ne (by omega)]
  rw [List.getElem?_append_right (by omega), hi]
  have hcl : cur.toList.length = cap * 4 := by rw [Array.length_toList]; exact hsz
  by_cases e0 : q = n * 4
  ·subst e0
   rw [List.getElem?_take_of_lt (by omega), List.getElem?_set_ne (by omega), List.getElem?_set_ne (by omega), List.getElem?_set_ne (by omega), List.getElem?_set_self (by omega)]
   simp
  by_cases e1 : q = n * 4 + 1
  ·subst e1
   rw [List.getElem?_take_of_lt (by omega), List.getElem?_set_ne (by omega), List.getElem?_set_ne (by omega), List.getElem?_set_self (by simp only [List.length_set]; omega), show n * 4 + 1 - n * 4 = 1 by omega]
   rfl
  by_cases e2 : q = n * 4 + 2
  ·subst e2
   rw [List.getElem?_take_of_lt (by omega), List.getElem?_set_ne (by omega), List.getElem?_set_self (by simp only [List.length_set]; omega), show n * 4 + 2 - n * 4 = 2 by omega]
   rfl
  by_cases e3 : q = n * 4 + 3
  ·subst e3
   rw [List.getElem?_take_of_lt (by omega), List.getElem?_set_self (by simp only [List.length_set]; omega), show n * 4 + 3 - n * 4 = 3 by omega]
   rfl
  rw [List.getElem?_eq_none (by rw [List.length_take]; omega), List.getElem?_eq_none (by simp; omega)]
 have hk' : k ≠ g := fun q => hk (by rw [q])
 rw [Below.heap_setCell _ ⟨g, _, none⟩ _ k hk', Below.heap_setCell _ ⟨g, _, none⟩ _ k hk', Below.heap_setCell _ ⟨g, _, none⟩ _ k hk', Below.heap_setCell _ ⟨g, _, none⟩ _ k hk']
/-- What an append of a zero element and a store into it leave, in either order of the two stores. -/
theorem NM.fin {w F : World} {gn B g1 cap1 : Nat} {us : List ByteArray} {xs : List S38} {x : S38} {v2 v3 : Value} {cs inner : List Value} (h : NM w gn us xs v2 v3) (hp : k38.M w (gn + 1) (fun k => B ≤ k) x cs) (hB2 : ∀ k, v2.ownBlock = some k → k < B) (hB3 : ∀ k, v3.ownBlock = some k → k < B)
  (hreps : Reps (k38.M w (gn + 1) (fun k => some k ≠ v2.ownBlock ∧ some k ≠ v3.ownBlock)) k38.sz xs inner)
  (hown : F.ownsRow (gn + 1) 38 k38.sz (.slice (some ⟨g1, 0, none⟩) (xs.length + 1) cap1) (xs.length + 1) (inner ++ cs)) (hat : v3.ownBlock = some g1 ∨ g1 = w.heap.size)
  (hblk : F.heap[gn]? = some (.cells #[.int .i64 6, .string ByteArray.empty, v2, .slice (some ⟨g1, 0, none⟩) (xs.length + 1) cap1] 38 (0, 0))) (hb : Below gn w F) (hkeep : ∀ k, k < w.heap.size → k ≠ gn → some k ≠ v3.ownBlock → F.heap[k]? = w.heap[k]?) :
  NM F gn us (xs ++ [x]) v2 (.slice (some ⟨g1, 0, none⟩) (xs.length + 1) cap1) := by
 have hsz : (w.setCell ⟨gn, 3, none⟩ (.slice (some ⟨g1, 0, none⟩) (xs.length + 1) cap1)).heap.size = w.heap.size := by simp [World.setCell]
 refine ⟨hblk, ?_, ?_⟩
 ·refine Kd.R_mono (Kd.R_step (Kd.R_bound h.keys) (fun k hk hlt => ?_)) (fun _ _ => trivial)
  by_cases e : some k = v3.ownBlock
  ·exfalso
   obtain ⟨inner', ho'⟩ := Kd.R_own h.kids
   obtain ⟨c1, e1⟩ := own_typed ho' k e.symm
   obtain ⟨_, _, _, q, hq, c2, e2⟩ := hk
   rw [e1] at e2
   have hq9 : q = 9 := by simpa [Kd.string, Kd.scalar] using hq
   injection e2 with e2
   injection e2 with _ e2
   rw [hq9] at e2
   exact absurd e2 (by decide)
  exact hkeep k hlt (by have := hk.2.1; omega) e
 have hfar : ∀ {q : S38} {c : List Value} {o : Nat → Prop}, k38.M w (gn + 1) o q c → k38.M (w.setCell ⟨gn, 3, none⟩ (.slice (some ⟨g1, 0, none⟩) (xs.length + 1) cap1)) (gn + 1) o q c := fun hq => k38.M_mono (fun k hk => hk.1) (Kd.M_far (p := ⟨gn, 3, none⟩) (k38.M_bound hq) (fun k hk => by have := hk.2.1; show k ≠ gn; omega) _)
 refine Kd.R_appended (ok := fun k => some k ≠ v2.ownBlock) (okp := fun k => B ≤ k) (W := w.setCell ⟨gn, 3, none⟩ (.slice (some ⟨g1, 0, none⟩) (xs.length + 1) cap1)) (v := v3) h.kids.1 (hreps.imp_ (fun _ _ hq => hfar hq)) (hfar hp) (fun k hk => ⟨fun e => ?_, fun e => ?_⟩) (fun k hk e => ?_) hown ?_ ?_
 ·have := hB2 k e.symm; omega
 ·have := hB3 k e.symm; omega
 ·rw [hsz] at hk
  have := Kd.R_lt h.keys k e.symm; omega
 ·refine ⟨hb.os, hb.tape, hb.output, by rw [hsz]; exact hb.size, fun k hk hne => ?_⟩
  rw [hsz] at hk
  by_cases e : k = gn
  ·subst e
   rw [hblk, setCell_eq_setRow w k 3 _ _ (0, 0) _ h.blk, setRow_heap w k _ _ _ (0, 0) h.blk]
   rfl
  rw [hkeep k hk e hne, Below.heap_setCell w ⟨gn, 3, none⟩ _ k e]
 rcases hat with e | e
 ·exact .inl e.symm
 exact .inr ⟨g1, rfl, by rw [hsz]; omega⟩
theorem own_ne {gn g1 n cap1 k : Nat} (hk : (Value.slice (some ⟨g1, 0, none⟩) n cap1).ownBlock = some k) (h : gn + 1 ≤ g1) : k ≠ gn := by
 have : g1 = k := by simpa [Value.ownBlock] using hk
 omega
/-- The facts that the walk needs behind the append, for both orders of the two stores. -/
theorem NM.app {w w7 : World} {gn B g1 cap1 : Nat} {us : List ByteArray} {xs : List S38} {x : S38} {v2 v3 : Value} {c0 c1 c2 c3 : Value} {inner : List Value} (h : NM w gn us xs v2 v3) (hp : k38.M w (gn + 1) (fun k => B ≤ k) x [c0, c1, c2, c3]) (hB2 : ∀ k, v2.ownBlock = some k → k < B) (hB3 : ∀ k, v3.ownBlock = some k → k < B)
  (hreps : Reps (k38.M w (gn + 1) (fun k => some k ≠ v2.ownBlock ∧ some k ≠ v3.ownBlock)) k38.sz xs inner)
  (hown : w7.ownsRow (gn + 1) 38 4 (.slice (some ⟨g1, 0, none⟩) (xs.length + 1) cap1) (xs.length + 1) (inner ++ zN.toList)) (hgr : w.grownBy w7 v3.ownBlock) (hat : v3.ownBlock = some g1 ∨ g1 = w.heap.size) :
  P4 w7 g1 xs.length c0 c1 c2 ∧ ((((w7.setCell ⟨g1, xs.length * 4, none⟩ c0).setCell ⟨g1, xs.length * 4 + 1, none⟩ c1).setCell ⟨g1, xs.length * 4 + 2, none⟩ c2).setCell ⟨g1, xs.length * 4 + 3, none⟩ c3).cell? ⟨gn, 3, none⟩ = some v3 ∧ ((((w7.setCell ⟨g1, xs.length * 4, none⟩ c0).setCell ⟨g1, xs.length * 4 + 1, none⟩ c1).setCell ⟨g1, xs.length * 4 + 2, none⟩ c2).setCell ⟨g1, xs.length * 4 + 3, none⟩ c3).frozen? ⟨gn, 3, none⟩ = false ∧ gn < ((((w7.setCell ⟨g1, xs.length * 4, none⟩ c0).setCell ⟨g1, xs.length * 4 + 1, none⟩ c1).setCell ⟨g1, xs.length * 4 + 2, none⟩ c2).setCell ⟨g1, xs.length * 4 + 3, none⟩ c3).heap.size ∧ w7.cell? ⟨gn, 3, none⟩ = some v3 ∧ w7.frozen? ⟨gn, 3, none⟩ = false ∧ gn < w7.heap.size ∧ P4 (w7.setCell ⟨gn, 3, none⟩ (.slice (some ⟨g1, 0, none⟩) (xs.length + 1) cap1)) g1 xs.length c0 c1 c2 ∧
   (NM (((((w7.setCell ⟨g1, xs.length * 4, none⟩ c0).setCell ⟨g1, xs.length * 4 + 1, none⟩ c1).setCell ⟨g1, xs.length * 4 + 2, none⟩ c2).setCell ⟨g1, xs.length * 4 + 3, none⟩ c3).setCell ⟨gn, 3, none⟩ (.slice (some ⟨g1, 0, none⟩) (xs.length + 1) cap1)) gn us (xs ++ [x]) v2 (.slice (some ⟨g1, 0, none⟩) (xs.length + 1) cap1) ∧ Below gn w (((((w7.setCell ⟨g1, xs.length * 4, none⟩ c0).setCell ⟨g1, xs.length * 4 + 1, none⟩ c1).setCell ⟨g1, xs.length * 4 + 2, none⟩ c2).setCell ⟨g1, xs.length * 4 + 3, none⟩ c3).setCell ⟨gn, 3, none⟩ (.slice (some ⟨g1, 0, none⟩) (xs.length + 1) cap1))) ∧ NM (((((w7.setCell ⟨gn, 3, none⟩ (.slice (some ⟨g1, 0, none⟩) (xs.length + 1) cap1)).setCell ⟨g1, xs.length * 4, none⟩ c0).setCell ⟨g1, xs.length * 4 + 1, none⟩ c1).setCell ⟨g1, xs.length * 4 + 2, none⟩ c2).setCell ⟨g1, xs.length * 4 + 3, none⟩ c3) gn us (xs ++ [x]) v2 (.slice (some ⟨g1, 0, none⟩) (xs.length + 1) cap1) ∧ Below gn w (((((w7.setCell ⟨gn, 3, none⟩ (.slice (some ⟨g1, 0, none⟩) (xs.length + 1) cap1)).setCell ⟨g1, xs.length * 4, none⟩ c0).setCell ⟨g1, xs.length * 4 + 1, none⟩ c1).setCell ⟨g1, xs.length * 4 + 2, none⟩ c2).setCell ⟨g1, xs.length * 4 + 3, none⟩ c3) := by
 have hil : inner.length = xs.length * 4 := hreps.1
 have hgg : gn + 1 ≤ g1 := by
  rcases hown.2 with ⟨e, _⟩ | ⟨g', _, _, e, hb, _⟩
  ·cases e
  injection e with e _
  injection e with e
  injection e with e
  omega
 have hne3 : some gn ≠ v3.ownBlock := fun e => by have := Kd.R_base h.kids gn e.symm; omega
 have hb7 : w7.heap[gn]? = some (.cells #[.int .i64 6, .string ByteArray.empty, v2, v3] 38 (0, 0)) := (hgr.block gn h.lt hne3).trans h.blk
 obtain ⟨hp8, ho8, hg8⟩ := row_put (c0 := c0) (c1 := c1) (c2 := c2) (c3 := c3) hown hil rfl
 obtain ⟨w8, hw8⟩ : ∃ z, z = ((((w7.setCell ⟨g1, xs.length * 4, none⟩ c0).setCell ⟨g1, xs.length * 4 + 1, none⟩ c1).setCell ⟨g1, xs.length * 4 + 2, none⟩ c2).setCell ⟨g1, xs.length * 4 + 3, none⟩ c3) := ⟨_, rfl⟩
 rw [← hw8] at ho8 hg8 ⊢
 have hlt7 : gn < w7.heap.size := (Array.getElem?_eq_some_iff.1 hb7).1
 have hb8 : w8.heap[gn]? = some (.cells #[.int .i64 6, .string ByteArray.empty, v2, v3] 38 (0, 0)) := (hg8.block gn hlt7 (fun e => by have := Option.some.inj e; omega)).trans hb7
 have set3 : ∀ W : World, W.heap[gn]? = some (.cells #[.int .i64 6, .string ByteArray.empty, v2, v3] 38 (0, 0)) → (W.setCell ⟨gn, 3, none⟩ (.slice (some ⟨g1, 0, none⟩) (xs.length + 1) cap1)).heap[gn]? = some (.cells #[.int .i64 6, .string ByteArray.empty, v2, .slice (some ⟨g1, 0, none⟩) (xs.length + 1) cap1] 38 (0, 0)) := fun W hW => by
  rw [setCell_eq_setRow W gn 3 _ _ (0, 0) _ hW]
  exact setRow_heap W gn _ _ _ (0, 0) hW
 have far3 : ∀ (W : World) k, k ≠ gn → (W.setCell ⟨gn, 3, none⟩ (.slice (some ⟨g1, 0, none⟩) (xs.length + 1) cap1)).heap[k]? = W.heap[k]? := fun W k hk => Below.heap_setCell W ⟨gn, 3, none⟩ _ k hk
 have siz3 : ∀ (W : World), (W.setCell ⟨gn, 3, none⟩ (.slice (some ⟨g1, 0, none⟩) (xs.length + 1) cap1)).heap.size = W.heap.size := fun W => by simp [World.setCell]
 have ho7' : (w7.setCell ⟨gn, 3, none⟩ (.slice (some ⟨g1, 0, none⟩) (xs.length + 1) cap1)).ownsRow (gn + 1) 38 4 (.slice (some ⟨g1, 0, none⟩) (xs.length + 1) cap1) (xs.length + 1) (inner ++ zN.toList) := own_move hown (fun k hk => far3 w7 k (own_ne hk hgg))
 obtain ⟨hp9, ho9, hg9⟩ := row_put (c0 := c0) (c1 := c1) (c2 := c2) (c3 := c3) ho7' hil rfl
 obtain ⟨w9, hw9⟩ : ∃ z, z = (((((w7.setCell ⟨gn, 3, none⟩ (.slice (some ⟨g1, 0, none⟩) (xs.length + 1) cap1)).setCell ⟨g1, xs.length * 4, none⟩ c0).setCell ⟨g1, xs.length * 4 + 1, none⟩ c1).setCell ⟨g1, xs.length * 4 + 2, none⟩ c2).setCell ⟨g1, xs.length * 4 + 3, none⟩ c3) := ⟨_, rfl⟩
 rw [← hw9] at ho9 hg9 ⊢
 have h7k : ∀ k, k < w.heap.size → some k ≠ v3.ownBlock → w7.heap[k]? = w.heap[k]? := fun k hk hn => hgr.block k hk hn
 have hg1k : ∀ k, k < w.heap.size → some k ≠ v3.ownBlock → k ≠ g1 := fun k hk hn e => by
  rcases hat with q | q
  ·exact hn (by rw [q, e])
  omega
 have hle := hgr.size
 have hbl7 : ∀ k, k < gn → w7.heap[k]? = w.heap[k]? := fun k hk => hgr.block k (Nat.lt_trans hk h.lt) (fun e => by have := Kd.R_base h.kids k e.symm; omega)
 refine ⟨hp8, by rw [cell_of_row w8 gn 3 _ _ (0, 0) hb8]; rfl, by simp [World.frozen?, hb8], (Array.getElem?_eq_some_iff.1 hb8).1, by rw [cell_of_row w7 gn 3 _ _ (0, 0) hb7]; rfl, by simp [World.frozen?, hb7], hlt7, hp9, ?_, ?_⟩
 ·have hB : Below gn w (w8.setCell ⟨gn, 3, none⟩ (.slice (some ⟨g1, 0, none⟩) (xs.length + 1) cap1)) := by
   refine ⟨hg8.os.trans hgr.os, hg8.tape.trans hgr.tape, hg8.output.trans hgr.output, by rw [siz3]; exact Nat.le_trans hgr.size hg8.size, fun k hk => ?_⟩
   rw [far3 w8 k (by omega), hg8.block k (by omega) (fun e => by have := Option.some.inj e; omega), hbl7 k hk]
  refine ⟨h.fin hp hB2 hB3 hreps (own_move ho8 (fun k hk => far3 w8 k (own_ne hk hgg))) hat (set3 w8 hb8) hB (fun k hk hn hv => ?_), hB⟩
  rw [far3 w8 k hn, hg8.block k (by omega) (fun e => hg1k k hk hv (Option.some.inj e)), h7k k hk hv]
 have hb9 : w9.heap[gn]? = some (.cells #[.int .i64 6, .string ByteArray.empty, v2, .slice (some ⟨g1, 0, none⟩) (xs.length + 1) cap1] 38 (0, 0)) := (hg9.block gn (by rw [siz3]; exact hlt7) (fun e => by have := Option.some.inj e; omega)).trans (set3 w7 hb7)
 have hB : Below gn w w9 := by
  refine ⟨hg9.os.trans hgr.os, hg9.tape.trans hgr.tape, hg9.output.trans hgr.output, Nat.le_trans hgr.size (by have := hg9.size; rw [siz3] at this; exact this), fun k hk => ?_⟩
  rw [hg9.block k (by rw [siz3]; omega) (fun e => by have := Option.some.inj e; omega), far3 w7 k (by omega), hbl7 k hk]
 refine ⟨h.fin hp hB2 hB3 hreps ho9 hat hb9 hB (fun k hk hn hv => ?_), hB⟩
 rw [hg9.block k (by rw [siz3]; omega) (fun e => hg1k k hk hv (Option.some.inj e)), far3 w7 k hn, h7k k hk hv]
set_option maxHeartbeats 20000000 in
set_option maxRecDepth 100000 in
theorem closure_calls (k : Nat) (ih : NC k) (t : FT) (x : S38) (hx : nd k t = some x) (hm : Made t) (w0 w : World) (S Q : Nat → Nat → Prop) (b o : Nat) (hl : Lies w Q b o t) (hg : Gl w0) (hgg : ∀ b o, Q b o → b ≠ 0 ∧ b ≠ 1) (hgS : ∀ b o, S b o → b ≠ 0 ∧ b ≠ 1)
  (gn : Nat) (hgn : w0.heap.size ≤ gn) (hC : Ch w0 w S) (hq : ∀ b o, Q b o → b < gn) (us : List ByteArray) (xs : List S38) (v2 v3 : Value) (hN : NM w gn us xs v2 v3) (u : ByteArray) (g cap : Nat) (hM : MB w 5 g cap (bytesOf u)) (hul : us.length ≤ 1000000) (hxl : xs.length ≤ 1000000) :
  Calls Tryd.prog 84 #[.slice (some ⟨g, 0, none⟩) u.size cap, .pointer (some ⟨b, o, none⟩), .pointer (some ⟨gn, 0, none⟩)] w fun e w' => ∃ v2' v3', e = .returned (.tuple #[]) ∧ NM w' gn (us ++ [u]) (xs ++ [x]) v2' v3' ∧ Ch w0 w' (fun b o => S b o ∨ Q b o) := by
 have hcv := hM.string (P := Tryd.prog) 47 9 Tryd.underlying47 Tryd.underlying5 Tryd.underlying9
 rw [bytesOf_length, str_bytesOf] at hcv
 have c2 : w.cell? ⟨gn, 2, none⟩ = some v2 := by rw [cell_of_row w gn 2 _ _ (0, 0) hN.blk]; rfl
 obtain ⟨A2, q2, rfl⟩ := Kd.R_slice hN.keys
 obtain ⟨A3, q3, rfl⟩ := Kd.R_slice hN.kids
 have hcall : ∀ W, Below gn w W → Calls Tryd.prog 37 #[.pointer (some ⟨b, o, none⟩)] W (NP W Q x) := fun W hb => ih t x hx hm W Q b o (liesBlw hl hb hq) (hg.ch (chBlw hC hb hgn) hgS) hgg
 have HCALL := Aside0.mk hcall
 obtain ⟨us', hus'⟩ : ∃ z, z = us ++ [u] := ⟨_, rfl⟩
 have HUS := Aside0.mk hus'
 rw [← hus']
 have HN := Aside0.mk hN
 have HUL := Aside0.mk hul
 have HXL := Aside0.mk hxl
 have HQ := Aside0.mk hq
 have HC := Aside0.mk hC
 have HGN := Aside0.mk hgn
 clear hus' hN hM hul hxl hcall ih hx hm hl hg hgg hgS hC hq hgn
 go_enter Tryd.func84, Tryd.ntmps84
 go_wp2_with (first
  | ((with_reducible refine gate_builtin (b := .append) (xs := #[_, _]) rfl ?_); at_builtin; refine Kd.R_append Kd.string (gn + 1) ?hgd ?os ?ox 27 9 (.string ⟨#[]⟩) 16 ?ho Tryd.underlying27 inf_s rfl (by decide) (by decide) _ us u [.string u] (fun _ => True) (fun _ => False) ?hs ?hx rfl (fun _ hk => hk.elim) (fun _ _ => trivial) HN.out.keys (Below.refl _ _) ?hb ?hl ?_; (case hgd => rfl); (case ho => rfl); (case hs => rfl); (case hx => rfl); (case hb => exact HN.out.lt); (case hl => have := HUL.out; omega); intro v4 w4 hr4 hb4 hg4 hat4; rw [← HUS.out] at hr4; obtain ⟨A4, q4, rfl⟩ := Kd.R_slice hr4; obtain ⟨f2, l2, d2, hN5, hB5⟩ := HN.out.keys_put hr4 hg4 hat4; have HN5 := Aside0.mk hN5; have HB5 := Aside0.mk hB5; clear hr4 hb4 hg4 hat4 hN5 hB5))
 obtain ⟨w5, hw5⟩ : ∃ z, z = w4.setCell ⟨gn, 2, none⟩ (.slice A4 us'.length q4) := ⟨_, rfl⟩
 rw [← hw5] at HN5 HB5 ⊢
 have HN6 := Aside0.mk HN5.out.drew
 have c3 : w5.drew.cell? ⟨gn, 3, none⟩ = some (.slice A3 xs.length q3) := by rw [cell_of_row w5.drew gn 3 _ _ (0, 0) HN6.out.blk]; rfl
 have hlt5 : gn < w5.heap.size := HN5.out.lt
 have hA := HCALL.out w5.drew HB5.out.drew
 have hBx := HCALL.out (w5.alloc (.cells zN 38)).drew (HB5.out.alloc (Nat.le_of_lt HN5.out.lt) _).drew
 have HA := Aside0.mk hA
 have HBx := Aside0.mk hBx
 obtain ⟨i0, hi0, hz0⟩ := Option.map_eq_some_iff.1 inf_nd
 obtain ⟨hz1, hz2, hz3⟩ : i0.zero = some (.agg zN) ∧ i0.size = 4 ∧ i0.bytes = 72 := by
  simp only [Prod.mk.injEq] at hz0
  exact hz0
 have HI0 := Aside0.mk hi0
 have HZ1 := Aside0.mk hz1
 have HZ2 := Aside0.mk hz2
 have HZ3 := Aside0.mk hz3
 clear hA hBx hw5 f2 l2 d2 hi0 hz1 hz2 hz3 hz0
 unfold zN at HBx
 have c3B : (w5.alloc (.cells #[.int .i64 0, .string ⟨#[]⟩, .slice none 0 0, .slice none 0 0] 38)).drew.cell? ⟨gn, 3, none⟩ = some (.slice A3 xs.length q3) := by rw [cell_of_row _ gn 3 _ _ (0, 0) (HN5.out.alloc (.cells zN 38)).drew.blk]; rfl
 have hix : ((xs.length : Int) < (xs.length : Int) + 1) = True := eq_true (by omega)
 go_region_law (first
  | (refine goes_ Tryd.func37 (by kernel_rfl) rfl #[.pointer (some ⟨b, o, none⟩)] (by rfl) rfl rfl (by (try simp only [List.map_toArray, List.map_cons, List.map_nil]); first | done | rfl) ?_; (with_reducible refine HA.out.mono ?_); rintro e w6 ⟨k2, k3, rfl, r2, r3, hch⟩; refine ⟨_, rfl, ?_⟩; obtain ⟨Ak2, ck2, rfl⟩ := Kd.R_slice r2; obtain ⟨Ak3, ck3, rfl⟩ := Kd.R_slice r3; have HNA := Aside0.mk (HN6.out.ch hch HQ.out); have cA3 : w6.cell? ⟨gn, 3, none⟩ = some (.slice A3 xs.length q3) := (by rw [cell_of_row w6 gn 3 _ _ (0, 0) HNA.out.blk]; rfl); have lA := HNA.out.lt; have HELA := Aside0.mk (NP.elem (P := Q) r2 r3 (gn + 1) (Nat.succ_le_of_lt HN6.out.lt)); have HCHA := Aside0.mk (((chBlw HC.out HB5.out.drew HGN.out).mono (fun _ _ _ e => (.inl e : _ ∨ _))).comp hch (fun _ _ _ e => .inr e)); clear r2 r3 hch)
  | (refine goes_ Tryd.func37 (by kernel_rfl) rfl #[.pointer (some ⟨b, o, none⟩)] (by rfl) rfl rfl (by (try simp only [List.map_toArray, List.map_cons, List.map_nil]); first | done | rfl) ?_; (with_reducible refine HBx.out.mono ?_); rintro e w6 ⟨k2, k3, rfl, r2, r3, hch⟩; refine ⟨_, rfl, ?_⟩; obtain ⟨Ak2, ck2, rfl⟩ := Kd.R_slice r2; obtain ⟨Ak3, ck3, rfl⟩ := Kd.R_slice r3; have HNB := Aside0.mk ((HN5.out.alloc _).drew.ch hch HQ.out); have cB3 : w6.cell? ⟨gn, 3, none⟩ = some (.slice A3 xs.length q3) := (by rw [cell_of_row w6 gn 3 _ _ (0, 0) HNB.out.blk]; rfl); have lB := HNB.out.lt; have HELB := Aside0.mk (NP.elem (P := Q) r2 r3 (gn + 1) (Nat.succ_le_of_lt (HN5.out.alloc (.cells zN 38)).drew.lt)); have HCHB := Aside0.mk (((chBlw HC.out (HB5.out.alloc (Nat.le_of_lt HN5.out.lt) _).drew HGN.out).mono (fun _ _ _ e => (.inl e : _ ∨ _))).comp hch (fun _ _ _ e => .inr e)); have HBX := Aside0.mk ((hch.block w5.heap.size (by simp) (fun o q => by have := HQ.out _ _ q; omega)).trans (heap_alloc_new w5 (.cells zN 38))); clear r2 r3 hch)
  | (obtain ⟨h0_, inner, hown0, hreps⟩ := (HNA.out.alloc (.cells zN 38)).kids; refine step_append_lies _ rfl (.tmp 13) (.tmp 17) 36 rfl (gn + 1) 38 i0 (.agg zN) 4 72 Tryd.underlying36 HI0.out HZ1.out HZ2.out HZ3.out rfl (by decide) _ xs.length inner rfl hown0 ⟨w6.heap.size, 0, none⟩ 1 1 zN.toList rfl rfl (World.news_of_block (heap_alloc_new w6 (.cells zN 38))) (by decide) (by decide) (by have := HXL.out; simp only [maxLen]; omega) (by have := HXL.out; omega) (Nat.le_trans (Nat.succ_le_of_lt HNA.out.lt) (by simp)) _ rfl ?_; intro g1 cap1 w7 hown1 hgr1 hat1 hlt1; obtain ⟨⟨⟨z80, a80⟩, f80, ⟨z81, a81⟩, f81, ⟨z82, a82⟩, f82, ⟨z83, a83⟩, f83, l81⟩, d8, f8, l8, d7, f7, l7, ⟨⟨z90, a90⟩, f90, ⟨z91, a91⟩, f91, ⟨z92, a92⟩, f92, ⟨z93, a93⟩, f93, l91⟩, ⟨hNt, hBt⟩, hNg, hBg⟩ := (HNA.out.alloc (.cells zN 38)).app (Kd.M_below HELA.out (below_alloc (Below.refl _ _) _)) (Kd.R_lt HN6.out.keys) (Kd.R_lt HN6.out.kids) hreps hown1 hgr1 hat1; have HNT := Aside0.mk hNt; have HNG := Aside0.mk hNg; have HCT := Aside0.mk (chBlw HCHA.out (((Below.refl gn w6).alloc (Nat.le_of_lt HNA.out.lt) _).trans hBt) HGN.out); have HCG := Aside0.mk (chBlw HCHA.out (((Below.refl gn w6).alloc (Nat.le_of_lt HNA.out.lt) _).trans hBg) HGN.out); clear hNt hBt hNg hBg hown1 hgr1 hat1 hown0 hreps h0_)
  | (obtain ⟨h0_, inner, hown0, hreps⟩ := HNB.out.kids; refine step_append_lies _ rfl (.tmp 13) (.tmp 17) 36 rfl (gn + 1) 38 i0 (.agg zN) 4 72 Tryd.underlying36 HI0.out HZ1.out HZ2.out HZ3.out rfl (by decide) _ xs.length inner rfl hown0 ⟨w5.heap.size, 0, none⟩ 1 1 zN.toList rfl rfl (World.news_of_block HBX.out) (by decide) (by decide) (by have := HXL.out; simp only [maxLen]; omega) (by have := HXL.out; omega) (Nat.le_trans (Nat.succ_le_of_lt HNB.out.lt) (by simp)) _ rfl ?_; intro g1 cap1 w7 hown1 hgr1 hat1 hlt1; obtain ⟨⟨⟨z80, a80⟩, f80, ⟨z81, a81⟩, f81, ⟨z82, a82⟩, f82, ⟨z83, a83⟩, f83, l81⟩, d8, f8, l8, d7, f7, l7, ⟨⟨z90, a90⟩, f90, ⟨z91, a91⟩, f91, ⟨z92, a92⟩, f92, ⟨z93, a93⟩, f93, l91⟩, ⟨hNt, hBt⟩, hNg, hBg⟩ := HNB.out.app HELB.out (Kd.R_lt (HN5.out.alloc (.cells zN 38)).drew.keys) (Kd.R_lt (HN5.out.alloc (.cells zN 38)).drew.kids) hreps hown1 hgr1 hat1; have HNT := Aside0.mk hNt; have HNG := Aside0.mk hNg; have HCT := Aside0.mk (chBlw HCHB.out ((Below.refl gn w6).trans hBt) HGN.out); have HCG := Aside0.mk (chBlw HCHB.out ((Below.refl gn w6).trans hBg) HGN.out); clear hNt hBt hNg hBg hown1 hgr1 hat1 hown0 hreps h0_))
 all_goals (first | go_end0 | ((try simp only [Exit.inBlock, Exit.then]); refine bodyPost_ret (results_none rfl _ _ _) rfl ?_))
 all_goals refine ⟨.slice A4 us'.length q4, .slice (some ⟨g1, 0, none⟩) (xs.length + 1) cap1, rfl, ?_⟩
 all_goals first | (with_reducible exact ⟨HNT.out, HCT.out⟩) | (with_reducible exact ⟨HNG.out, HCG.out⟩)
end FJ
end Go.Proofs.YtnajijaachgipaaDoor.PT
end
