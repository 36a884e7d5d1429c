-- Written by a program of this session out of the translation (a changed copy of the kit's print); Lean checks it.
import Derived.Test.YtnajijaachgipaaDoorPFx0
import Derived.Test.YtnajijaachgipaaDoorPFx1
import Derived.Test.YtnajijaachgipaaDoorPFx2
import Derived.Test.YtnajijaachgipaaDoorPFx3
import Derived.Test.YtnajijaachgipaaDoorPFx4
namespace Go.Proofs.YtnajijaachgipaaDoor.PF
open Go.RowKit Go.Proofs.YtnajijaachgipaaDoorW.PrintWords Go.Proofs.YtnajijaachgipaaDoorW.PrintLast Go.Proofs.YtnajijaachgipaaDoorW.PrintMore
attribute [local go_sem] max2_int min2_int max_two min_two max_three min_three max_four min_four   -- for this text's walks alone
set_option linter.unusedVariables false
set_option linter.unusedSimpArgs false

/-! ### fastfloat_ParseInt64: function 42 -/
mutual
def fastfloat_ParseInt64.j0 : Nat → ByteArray → Int → Bool → Option (Int × Option Int)
  | 0, _, _, _ => none
  | k + 1, x0, x4, x5 => fastfloat_ParseInt64.l0 k x0 x4 x5 0 x4
def fastfloat_ParseInt64.j3 : Nat → ByteArray → Int → Bool → Int → Int → Option (Int × Option Int)
  | 0, _, _, _, _, _ => none
  | k + 1, x0, x4, x5, x6, x7 => if x4 ≤ x7 then ((errors_New.f (⟨#[99, 97, 110, 110, 111, 116, 32, 112, 97, 114, 115, 101, 32, 105, 110, 116, 54, 52, 32, 102, 114, 111, 109]⟩ : ByteArray)).bind fun t106 => (some (0, t106))) else (if x4 < (IntKind.u64.wrap ((x0.size : Int))) then ((errors_New.f (⟨#[117, 110, 112, 97, 114, 115, 101, 100, 32, 116, 97, 105, 108, 32, 108, 101, 102, 116, 32, 97, 102, 116, 101, 114, 32, 112, 97, 114, 115, 105, 110, 103, 32, 105, 110, 116, 54, 52, 32, 102, 111, 114, 109]⟩ : ByteArray)).bind fun t107 => (some (0, t107))) else (if x5 = true then (some (wrap64 (-x6), none)) else (some (x6, none))))
def fastfloat_ParseInt64.l0 : Nat → ByteArray → Int → Bool → Int → Int → Option (Int × Option Int)
  | 0, _, _, _, _, _ => none
  | k + 1, x0, x4, x5, x6, x7 => if x4 < (IntKind.u64.wrap ((x0.size : Int))) then (if 0 ≤ x4 then (if x4 < (x0.size : Int) then (if (bt x0 x4) ≥ 48 then (fastfloat_ParseInt64.j2 k x0 x4 x5 x6 x7 (decide ((bt x0 x4) ≤ 57))) else (fastfloat_ParseInt64.j2 k x0 x4 x5 x6 x7 false)) else (none)) else (none)) else (fastfloat_ParseInt64.j3 k x0 x4 x5 x6 x7)
def fastfloat_ParseInt64.j2 : Nat → ByteArray → Int → Bool → Int → Int → Bool → Option (Int × Option Int)
  | 0, _, _, _, _, _, _ => none
  | k + 1, x0, x4, x5, x6, x7, x41 => if x41 = true then (if 0 ≤ x4 then (if x4 < (x0.size : Int) then (if (IntKind.u64.wrap (x4 + 1)) > 18 then ((strconv_ParseInt.f x0 10 64).bind fun bt103 => (if bt103.2.isNone = true then (some (bt103.1, none)) else (some (0, some (bt103.2.getD 0))))) else (fastfloat_ParseInt64.l0 k x0 (IntKind.u64.wrap (x4 + 1)) x5 (wrap64 ((wrap64 (x6 * 10)) + (((bt x0 x4) - 48) % 256))) x7)) else (none)) else (none)) else (fastfloat_ParseInt64.j3 k x0 x4 x5 x6 x7)
end
def fastfloat_ParseInt64.f (k : Nat) (a0 : ByteArray) : Option (Int × Option Int) := if (a0.size : Int) = 0 then ((errors_New.f (⟨#[99, 97, 110, 110, 111, 116, 32, 112, 97, 114, 115, 101, 32, 105, 110, 116, 54, 52, 32, 102, 114, 111, 109, 32, 101, 109, 112, 116, 121, 32, 115, 116, 114, 105, 110, 103]⟩ : ByteArray)).bind fun t101 => (some (0, t101))) else (if 0 < (a0.size : Int) then (if (bt a0 0) = 45 then (if 1 ≥ (IntKind.u64.wrap ((a0.size : Int))) then ((errors_New.f (⟨#[99, 97, 110, 110, 111, 116, 32, 112, 97, 114, 115, 101, 32, 105, 110, 116, 54, 52, 32, 102, 114, 111, 109]⟩ : ByteArray)).bind fun t102 => (some (0, t102))) else (fastfloat_ParseInt64.j0 k a0 1 ((bt a0 0) == 45))) else (fastfloat_ParseInt64.j0 k a0 0 ((bt a0 0) == 45))) else (none))
theorem fastfloat_ParseInt64.mono_l : ∀ k, (∀ y0 y1 y2, LeO (fastfloat_ParseInt64.j0 k y0 y1 y2) (fastfloat_ParseInt64.j0 (k + 1) y0 y1 y2)) ∧ (∀ y0 y1 y2 y3 y4, LeO (fastfloat_ParseInt64.j3 k y0 y1 y2 y3 y4) (fastfloat_ParseInt64.j3 (k + 1) y0 y1 y2 y3 y4)) ∧ (∀ y0 y1 y2 y3 y4, LeO (fastfloat_ParseInt64.l0 k y0 y1 y2 y3 y4) (fastfloat_ParseInt64.l0 (k + 1) y0 y1 y2 y3 y4)) ∧ (∀ y0 y1 y2 y3 y4 y5, LeO (fastfloat_ParseInt64.j2 k y0 y1 y2 y3 y4 y5) (fastfloat_ParseInt64.j2 (k + 1) y0 y1 y2 y3 y4 y5))
  | 0 => ⟨fun _ _ _ r h => by simp [fastfloat_ParseInt64.j0] at h, fun _ _ _ _ _ r h => by simp [fastfloat_ParseInt64.j3] at h, fun _ _ _ _ _ r h => by simp [fastfloat_ParseInt64.l0] at h, fun _ _ _ _ _ _ r h => by simp [fastfloat_ParseInt64.j2] at h⟩
  | k + 1 => by
    obtain ⟨ih0, ih1, ih2, ih3⟩ := fastfloat_ParseInt64.mono_l k
    refine ⟨?_, ?_, ?_, ?_⟩
    · intro y0 y1 y2
      unfold fastfloat_ParseInt64.j0
      repeat' first
      | (with_reducible exact ih0 _ _ _)
      | (with_reducible exact ih1 _ _ _ _ _)
      | (with_reducible exact ih2 _ _ _ _ _)
      | (with_reducible exact ih3 _ _ _ _ _ _)
      | (with_reducible exact LeO.refl _)
      | (with_reducible exact LeO.none _)
      | (with_reducible refine LeO.ite ?_ ?_)
      | (with_reducible refine LeO.bind ?_ (fun _ => ?_))
      | exact ih0 _ _ _
      | exact ih1 _ _ _ _ _
      | exact ih2 _ _ _ _ _
      | exact ih3 _ _ _ _ _ _
      | exact LeO.none _
      | refine LeO.ite ?_ ?_
      | refine LeO.bind ?_ (fun _ => ?_)
    · intro y0 y1 y2 y3 y4
      unfold fastfloat_ParseInt64.j3
      repeat' first
      | (with_reducible exact ih0 _ _ _)
      | (with_reducible exact ih1 _ _ _ _ _)
      | (with_reducible exact ih2 _ _ _ _ _)
      | (with_reducible exact ih3 _ _ _ _ _ _)
      | (with_reducible exact LeO.refl _)
      | (with_reducible exact LeO.none _)
      | (with_reducible refine LeO.ite ?_ ?_)
      | (with_reducible refine LeO.bind ?_ (fun _ => ?_))
      | exact ih0 _ _ _
      | exact ih1 _ _ _ _ _
      | exact ih2 _ _ _ _ _
      | exact ih3 _ _ _ _ _ _
      | exact LeO.none _
      | refine LeO.ite ?_ ?_
      | refine LeO.bind ?_ (fun _ => ?_)
    · intro y0 y1 y2 y3 y4
      unfold fastfloat_ParseInt64.l0
      repeat' first
      | (with_reducible exact ih0 _ _ _)
      | (with_reducible exact ih1 _ _ _ _ _)
      | (with_reducible exact ih2 _ _ _ _ _)
      | (with_reducible exact ih3 _ _ _ _ _ _)
      | (with_reducible exact LeO.refl _)
      | (with_reducible exact LeO.none _)
      | (with_reducible refine LeO.ite ?_ ?_)
      | (with_reducible refine LeO.bind ?_ (fun _ => ?_))
      | exact ih0 _ _ _
      | exact ih1 _ _ _ _ _
      | exact ih2 _ _ _ _ _
      | exact ih3 _ _ _ _ _ _
      | exact LeO.none _
      | refine LeO.ite ?_ ?_
      | refine LeO.bind ?_ (fun _ => ?_)
    · intro y0 y1 y2 y3 y4 y5
      unfold fastfloat_ParseInt64.j2
      repeat' first
      | (with_reducible exact ih0 _ _ _)
      | (with_reducible exact ih1 _ _ _ _ _)
      | (with_reducible exact ih2 _ _ _ _ _)
      | (with_reducible exact ih3 _ _ _ _ _ _)
      | (with_reducible exact LeO.refl _)
      | (with_reducible exact LeO.none _)
      | (with_reducible refine LeO.ite ?_ ?_)
      | (with_reducible refine LeO.bind ?_ (fun _ => ?_))
      | exact ih0 _ _ _
      | exact ih1 _ _ _ _ _
      | exact ih2 _ _ _ _ _
      | exact ih3 _ _ _ _ _ _
      | exact LeO.none _
      | refine LeO.ite ?_ ?_
      | refine LeO.bind ?_ (fun _ => ?_)
theorem fastfloat_ParseInt64.mono : ∀ a0 k, LeO (fastfloat_ParseInt64.f k a0) (fastfloat_ParseInt64.f (k + 1) a0) := by
  intro a0 k
  obtain ⟨ih0, ih1, ih2, ih3⟩ := fastfloat_ParseInt64.mono_l k
  unfold fastfloat_ParseInt64.f
  repeat' first
      | (with_reducible exact ih0 _ _ _)
      | (with_reducible exact ih1 _ _ _ _ _)
      | (with_reducible exact ih2 _ _ _ _ _)
      | (with_reducible exact ih3 _ _ _ _ _ _)
      | (with_reducible exact LeO.refl _)
      | (with_reducible exact LeO.none _)
      | (with_reducible refine LeO.ite ?_ ?_)
      | (with_reducible refine LeO.bind ?_ (fun _ => ?_))
      | exact ih0 _ _ _
      | exact ih1 _ _ _ _ _
      | exact ih2 _ _ _ _ _
      | exact ih3 _ _ _ _ _ _
      | exact LeO.none _
      | refine LeO.ite ?_ ?_
      | refine LeO.bind ?_ (fun _ => ?_)
set_option maxHeartbeats 8000000 in
set_option maxRecDepth 100000 in
theorem fastfloat_ParseInt64.calls (k : Nat) (a0 : ByteArray) (r1 : Int) (r2 : Option Int) (w : World) (hT0 : Kd.C Kd.errk w (some ⟨0, 0, none⟩) tabG0.length tabG0) (hT1 : Kd.C Kd.errk w (some ⟨1, 0, none⟩) tabG1.length tabG1) (h : fastfloat_ParseInt64.f k a0 = some (r1, r2)) :
    Calls Tryd.prog 42 #[.string a0] w fun e w' => ∃ (et1_ : Nat) (ep1_ : Value), e = .returned (.tuple #[.int .i64 r1, errX et1_ ep1_ r2]) ∧ Below w.heap.size w w' := by
  have hu54 := Tryd.underlying54
  have HRG0 := Aside0.mk hT0
  clear hT0
  have HRG1 := Aside0.mk hT1
  clear hT1
  have HB := Aside0.mk (Below.refl w.heap.size w)
  have H : (if (a0.size : Int) = 0 then ((errors_New.f (⟨#[99, 97, 110, 110, 111, 116, 32, 112, 97, 114, 115, 101, 32, 105, 110, 116, 54, 52, 32, 102, 114, 111, 109, 32, 101, 109, 112, 116, 121, 32, 115, 116, 114, 105, 110, 103]⟩ : ByteArray)).bind fun t101 => (some (0, t101))) else (if 0 < (a0.size : Int) then (if (bt a0 0) = 45 then (if 1 ≥ (IntKind.u64.wrap ((a0.size : Int))) then ((errors_New.f (⟨#[99, 97, 110, 110, 111, 116, 32, 112, 97, 114, 115, 101, 32, 105, 110, 116, 54, 52, 32, 102, 114, 111, 109]⟩ : ByteArray)).bind fun t102 => (some (0, t102))) else (fastfloat_ParseInt64.j0 k a0 1 ((bt a0 0) == 45))) else (fastfloat_ParseInt64.j0 k a0 0 ((bt a0 0) == 45))) else (none))) = some (r1, r2) := h
  clear h
  by_cases c2 : (a0.size : Int) = 0
  · rw [if_pos c2] at H
    have c2b0 : ((a0.size : Int) == 0) = true := beq_iff_eq.mpr c2
    have c2b1 : ((a0.size : Int) != 0) = false := bne_eq_false_iff_eq.mpr c2
    clear c2
    replace H := Option.bind_eq_some_iff.mp H
    obtain ⟨t101, A30, H⟩ := H
    replace H : (some (0, t101)) = some (r1, r2) := H
    have A3 := Aside0.mk A30
    clear A30
    simp only [Option.some.injEq, Prod.mk.injEq] at H
    obtain ⟨rfl, rfl⟩ := H
    go_enter Tryd.func42, Tryd.ntmps42
    go_wp2_with (first | ((with_reducible refine gate_callee (f := 41) rfl ?_); refine goesL_ (some 13) rfl rfl Tryd.func41 (by kernel_rfl) rfl #[.string (⟨#[99, 97, 110, 110, 111, 116, 32, 112, 97, 114, 115, 101, 32, 105, 110, 116, 54, 52, 32, 102, 114, 111, 109, 32, 101, 109, 112, 116, 121, 32, 115, 116, 114, 105, 110, 103]⟩ : ByteArray)] rfl (by (try simp only [List.map_toArray, List.map_cons, List.map_nil]); first | done | rfl | (simp only [List.length_drop, List.length_take]; rfl)) ?_; (with_reducible refine (errors_New.calls (⟨#[99, 97, 110, 110, 111, 116, 32, 112, 97, 114, 115, 101, 32, 105, 110, 116, 54, 52, 32, 102, 114, 111, 109, 32, 101, 109, 112, 116, 121, 32, 115, 116, 114, 105, 110, 103]⟩ : ByteArray) t101 _ A3.out).mono ?_); rintro e w4 ⟨et_A3_0, ep_A3_0, rfl, hb⟩; refine ⟨_, rfl, ?_⟩; have n0_ := Aside0.mk (below_step (by repeat (first | (with_reducible first | exact HB.out | apply below_alloc | apply pw_below_drewN | apply below_drew1) | exact HB.out)) hb); clear HB; have HB := n0_; clear n0_; (try clear hb); (try clear hb2); (try clear hk); (try clear hi); (try simp only [errW_none, errW_some, errX_none, errX_some])))
    go_ret2
    first | exact ⟨et_A3_0, ep_A3_0, by first | rfl | (simp [errW_none, errW_some] <;> rfl) | (simp [*, errW_none, errW_some] <;> rfl), by repeat (first | (with_reducible first | exact HB.out | apply below_alloc | apply pw_below_drewN | apply below_drew1) | exact HB.out)⟩ | exact ⟨⟨et_A3_0, ep_A3_0, by first | rfl | (simp [errW_none, errW_some] <;> rfl) | (simp [*, errW_none, errW_some] <;> rfl)⟩, by repeat (first | (with_reducible first | exact HB.out | apply below_alloc | apply pw_below_drewN | apply below_drew1) | exact HB.out)⟩
  · rw [if_neg c2] at H
    have c2b0 : ((a0.size : Int) == 0) = false := beq_eq_false_iff_ne.mpr c2
    have c2b1 : ((a0.size : Int) != 0) = true := bne_iff_ne.mpr c2
    by_cases c5 : 0 < (a0.size : Int)
    · rw [if_pos c5] at H
      have c5b0 : decide (0 < (a0.size : Int)) = true := decide_eq_true c5
      have c5b1 : decide (0 < a0.size) = true := decide_eq_true (by omega)
      clear c5
      have HC7 := Aside0.mk H
      clear H
      have p6 : 0 ≤ (0 : Int) := (by omega)
      have q6 : 0 < a0.size := (by have : (0 : Int) < (a0.size : Int) := of_decide_eq_true (by first | (with_reducible assumption) | assumption); omega)
      have hx6 : ∀ h : 0 < a0.size, ((a0[0]'h).toNat : Int) = bt a0 0 := bt_at a0 0
      clear p6
      have qi6 : (0 < (a0.size : Int)) = True := eq_true (of_decide_eq_true (by first | (with_reducible assumption) | assumption))
      replace q6 := eq_true q6
      go_enter Tryd.func42, Tryd.ntmps42
      go_upto_if 17 with (fail)
      go_cut [4, 5] (fun v4 v5 wc => ∃ (kq : Nat) (x4_6 : Int) (x5_6 : Bool), v4 = .int .u64 x4_6 ∧ v5 = .bool x5_6 ∧ Aside0 (fastfloat_ParseInt64.j0 kq a0 x4_6 x5_6 = some (r1, r2)) ∧ Aside0 (kq ≤ k) ∧ Aside0 (Below w.heap.size w wc))
      case first =>
        have H := HC7.out
        clear HC7
        by_cases c8 : (bt a0 0) = 45
        · rw [if_pos c8] at H
          have c8b0 : ((bt a0 0) == 45) = true := beq_iff_eq.mpr c8
          have c8b1 : ((bt a0 0) != 45) = false := bne_eq_false_iff_eq.mpr c8
          clear c8
          (first | rw [c8b0] | (simp only [i64_w, i32_w]; rw [c8b0]) | rw [c8b1] | skip)
          by_cases c9 : 1 ≥ (IntKind.u64.wrap ((a0.size : Int)))
          · rw [if_pos c9] at H
            have c9b0 : decide ((IntKind.u64.wrap ((a0.size : Int))) ≤ 1) = true := decide_eq_true c9
            clear c9
            replace H := Option.bind_eq_some_iff.mp H
            obtain ⟨t102, A100, H⟩ := H
            replace H : (some (0, t102)) = some (r1, r2) := H
            have A10 := Aside0.mk A100
            clear A100
            simp only [Option.some.injEq, Prod.mk.injEq] at H
            obtain ⟨rfl, rfl⟩ := H
            go_wp2_with (first | ((with_reducible refine gate_callee (f := 41) rfl ?_); refine goesL_ (some 25) rfl rfl Tryd.func41 (by kernel_rfl) rfl #[.string (⟨#[99, 97, 110, 110, 111, 116, 32, 112, 97, 114, 115, 101, 32, 105, 110, 116, 54, 52, 32, 102, 114, 111, 109]⟩ : ByteArray)] rfl (by (try simp only [List.map_toArray, List.map_cons, List.map_nil]); first | done | rfl | (simp only [List.length_drop, List.length_take]; rfl)) ?_; (with_reducible refine (errors_New.calls (⟨#[99, 97, 110, 110, 111, 116, 32, 112, 97, 114, 115, 101, 32, 105, 110, 116, 54, 52, 32, 102, 114, 111, 109]⟩ : ByteArray) t102 _ A10.out).mono ?_); rintro e w11 ⟨et_A10_0, ep_A10_0, rfl, hb⟩; refine ⟨_, rfl, ?_⟩; have n0_ := Aside0.mk (below_step (by repeat (first | (with_reducible first | exact HB.out | apply below_alloc | apply pw_below_drewN | apply below_drew1) | exact HB.out)) hb); clear HB; have HB := n0_; clear n0_; (try clear hb); (try clear hb2); (try clear hk); (try clear hi); (try simp only [errW_none, errW_some, errX_none, errX_some])))
            go_ret2
            first | exact ⟨et_A10_0, ep_A10_0, by first | rfl | (simp [errW_none, errW_some] <;> rfl) | (simp [*, errW_none, errW_some] <;> rfl), by repeat (first | (with_reducible first | exact HB.out | apply below_alloc | apply pw_below_drewN | apply below_drew1) | exact HB.out)⟩ | exact ⟨⟨et_A10_0, ep_A10_0, by first | rfl | (simp [errW_none, errW_some] <;> rfl) | (simp [*, errW_none, errW_some] <;> rfl)⟩, by repeat (first | (with_reducible first | exact HB.out | apply below_alloc | apply pw_below_drewN | apply below_drew1) | exact HB.out)⟩
          · rw [if_neg c9] at H
            have c9b0 : decide ((IntKind.u64.wrap ((a0.size : Int))) ≤ 1) = false := decide_eq_false c9
            clear c9
            have H' := Aside0.mk H
            clear H
            go_wp2
            go_meet
            case rel => exact ⟨_, (1), (((bt a0 0) == 45)), (by first | rfl | (simp; done) | (simp [*]; done)), (by first | rfl | (simp; done) | (simp [*]; done)), H', ⟨by first | omega | exact Nat.le_refl _⟩, ⟨by repeat (first | (with_reducible first | exact HB.out | apply below_alloc | apply pw_below_drewN | apply below_drew1) | exact HB.out)⟩⟩
        · rw [if_neg c8] at H
          have c8b0 : ((bt a0 0) == 45) = false := beq_eq_false_iff_ne.mpr c8
          have c8b1 : ((bt a0 0) != 45) = true := bne_iff_ne.mpr c8
          (first | rw [c8b0] | (simp only [i64_w, i32_w]; rw [c8b0]) | rw [c8b1] | skip)
          have H' := Aside0.mk H
          clear H
          go_wp2
          go_meet
          case rel => exact ⟨_, (0), (((bt a0 0) == 45)), (by first | rfl | (simp; done) | (simp [*]; done)), (by first | rfl | (simp; done) | (simp [*]; done)), H', ⟨by first | omega | exact Nat.le_refl _⟩, ⟨by repeat (first | (with_reducible first | exact HB.out | apply below_alloc | apply pw_below_drewN | apply below_drew1) | exact HB.out)⟩⟩
      case rest =>
        clear HC7
        try clear c2
        try clear c2b0
        try clear c2b1
        try clear p2
        try clear c4
        try clear c5
        try clear c5b0
        try clear c5b1
        try clear p6
        try clear q6
        try clear hx6
        try clear qi6
        try clear c8
        try clear c8b0
        try clear c8b1
        try clear c9
        try clear c9b0
        try clear p6
        try clear q6
        obtain ⟨kq, x4_6, x5_6, rfl, rfl, HA, HJ6, HB⟩ := hcut
        cases kq with
        | zero => exact absurd HA.out (by simp [fastfloat_ParseInt64.j0])
        | succ kj6 =>
          have H := HA.out
          clear HA
          simp only [fastfloat_ParseInt64.j0] at H
          have HC12 := Aside0.mk H
          clear H
          go_upto_block 0 with (fail)
          go_cut [4, 6] (fun v4 v6 wc => ∃ (kq : Nat) (x4_11 : Int) (x6_11 : Int), v4 = .int .u64 x4_11 ∧ v6 = .int .i64 x6_11 ∧ Aside0 (fastfloat_ParseInt64.j3 kq a0 x4_11 x5_6 x6_11 x4_6 = some (r1, r2)) ∧ Aside0 (kq ≤ kj6) ∧ Aside0 (Below w.heap.size w wc))
          case first =>
            have H := HC12.out
            clear HC12
            have H' := Aside0.mk H
            clear H
            go_wp2
            try simp only [Act.put, List.setIfInBounds_toArray, List.set_cons_succ, List.set_cons_zero]
            go_loopg [4, 6] kj6 (fun kq v4 v6 w' => ∃ (x4_2 : Int) (x6_2 : Int), v4 = .int .u64 x4_2 ∧ v6 = .int .i64 x6_2 ∧ Aside0 (fastfloat_ParseInt64.l0 kq a0 x4_2 x5_6 x6_2 x4_6 = some (r1, r2)) ∧ Aside0 (kq ≤ kj6) ∧ Aside0 (Below w.heap.size w w'))
            case atStart => exact ⟨(x4_6), (0), (by first | rfl | (simp; done) | (simp [*]; done)), (by first | rfl | (simp; done) | (simp [*]; done)), H', ⟨Nat.le_refl _⟩, ⟨by repeat (first | (with_reducible first | exact HB.out | apply below_alloc | apply pw_below_drewN | apply below_drew1) | exact HB.out)⟩⟩
            case round =>
              clear H'
              try clear c2
              try clear c2b0
              try clear c2b1
              try clear p2
              try clear c4
              try clear c5
              try clear c5b0
              try clear c5b1
              try clear p6
              try clear q6
              try clear hx6
              try clear qi6
              try clear c8
              try clear c8b0
              try clear c8b1
              try clear c9
              try clear c9b0
              try clear p2
              try clear p6
              try clear q6
              obtain ⟨x4_2, x6_2, rfl, rfl, HA, HK2, HB⟩ := hrel
              cases gk with
              | zero => exact absurd HA.out (by simp [fastfloat_ParseInt64.l0])
              | succ k2 =>
                have H := HA.out
                clear HA
                simp only [fastfloat_ParseInt64.l0] at H
                by_cases c13 : x4_2 < (IntKind.u64.wrap ((a0.size : Int)))
                · rw [if_pos c13] at H
                  have c13b0 : decide (x4_2 < (IntKind.u64.wrap ((a0.size : Int)))) = true := decide_eq_true c13
                  clear c13
                  (first | rw [c13b0] | (simp only [i64_w, i32_w]; rw [c13b0]) | rw [c13b1] | skip)
                  have HC14 := Aside0.mk H
                  clear H
                  go_upto_region 12 with (fail)
                  go_cut [41] (fun v41 wc => ∃ (kq : Nat) (x41_13 : Bool), v41 = .bool x41_13 ∧ Aside0 (fastfloat_ParseInt64.j2 kq a0 x4_2 x5_6 x6_2 x4_6 x41_13 = some (r1, r2)) ∧ Aside0 (kq ≤ k2) ∧ Aside0 (Below w.heap.size w wc))
                  case first =>
                    have H := HC14.out
                    clear HC14
                    by_cases c15 : 0 ≤ x4_2
                    · rw [if_pos c15] at H
                      have c15b0 : decide (0 ≤ x4_2) = true := decide_eq_true c15
                      clear c15
                      (first | rw [c15b0] | (simp only [i64_w, i32_w]; rw [c15b0]) | rw [c15b1] | skip)
                      by_cases c16 : x4_2 < (a0.size : Int)
                      · rw [if_pos c16] at H
                        have c16b0 : decide (x4_2 < (a0.size : Int)) = true := decide_eq_true c16
                        clear c16
                        by_cases c18 : (bt a0 x4_2) ≥ 48
                        · rw [if_pos c18] at H
                          have c18b0 : decide (48 ≤ (bt a0 x4_2)) = true := decide_eq_true c18
                          clear c18
                          have H' := Aside0.mk H
                          clear H
                          have p17 : 0 ≤ (x4_2 : Int) := of_decide_eq_true (by first | (with_reducible assumption) | assumption)
                          have q17 : x4_2 < (a0.size : Int) := of_decide_eq_true (by first | (with_reducible assumption) | assumption)
                          have hx17 := bt_at a0 x4_2
                          replace p17 := eq_true p17
                          replace q17 := eq_true q17
                          have p19 : 0 ≤ (x4_2 : Int) := of_decide_eq_true (by first | (with_reducible assumption) | assumption)
                          have q19 : x4_2 < (a0.size : Int) := of_decide_eq_true (by first | (with_reducible assumption) | assumption)
                          have hx19 := bt_at a0 x4_2
                          replace p19 := eq_true p19
                          replace q19 := eq_true q19
                          go_wp2
                          go_meet
                          case rel => exact ⟨_, (decide ((bt a0 x4_2) ≤ 57)), (by first | rfl | (simp; done) | (simp [*]; done)), H', ⟨by have := HJ6.out; have := HK2.out; first | omega | exact Nat.le_refl _⟩, ⟨by repeat (first | (with_reducible first | exact HB.out | apply below_alloc | apply pw_below_drewN | apply below_drew1) | exact HB.out)⟩⟩
                        · rw [if_neg c18] at H
                          have c18b0 : decide (48 ≤ (bt a0 x4_2)) = false := decide_eq_false c18
                          clear c18
                          have H' := Aside0.mk H
                          clear H
                          have p17 : 0 ≤ (x4_2 : Int) := of_decide_eq_true (by first | (with_reducible assumption) | assumption)
                          have q17 : x4_2 < (a0.size : Int) := of_decide_eq_true (by first | (with_reducible assumption) | assumption)
                          have hx17 := bt_at a0 x4_2
                          replace p17 := eq_true p17
                          replace q17 := eq_true q17
                          go_wp2
                          go_meet
                          case rel => exact ⟨_, (false), (by first | rfl | (simp; done) | (simp [*]; done)), H', ⟨by have := HJ6.out; have := HK2.out; first | omega | exact Nat.le_refl _⟩, ⟨by repeat (first | (with_reducible first | exact HB.out | apply below_alloc | apply pw_below_drewN | apply below_drew1) | exact HB.out)⟩⟩
                      · rw [if_neg c16] at H
                        exact absurd H (by simp)
                    · rw [if_neg c15] at H
                      exact absurd H (by simp)
                  case rest =>
                    clear HC14
                    try clear c1
                    try clear p1
                    try clear q1
                    try clear hx1
                    try clear c2
                    try clear c2b0
                    try clear c2b1
                    try clear p2
                    try clear c4
                    try clear c5
                    try clear c5b0
                    try clear c5b1
                    try clear p6
                    try clear q6
                    try clear hx6
                    try clear qi6
                    try clear c8
                    try clear c8b0
                    try clear c8b1
                    try clear c9
                    try clear c9b0
                    try clear c13
                    try clear c13b0
                    try clear c13b1
                    try clear c15
                    try clear c15b0
                    try clear c15b1
                    try clear c16
                    try clear c16b0
                    try clear p17
                    try clear q17
                    try clear hx17
                    try clear c18
                    try clear c18b0
                    try clear p19
                    try clear q19
                    try clear hx19
                    try clear p17
                    try clear p19
                    try clear p2
                    try clear p6
                    try clear q17
                    try clear q19
                    try clear q6
                    obtain ⟨kq, x41_13, rfl, HA, HJ13, HB⟩ := hcut
                    cases kq with
                    | zero => exact absurd HA.out (by simp [fastfloat_ParseInt64.j2])
                    | succ kj13 =>
                      have H := HA.out
                      clear HA
                      simp only [fastfloat_ParseInt64.j2] at H
                      by_cases c20 : x41_13 = true
                      · subst c20
                        have H1 : (if 0 ≤ x4_2 then (if x4_2 < (a0.size : Int) then (if (IntKind.u64.wrap (x4_2 + 1)) > 18 then ((strconv_ParseInt.f a0 10 64).bind fun bt103 => (if bt103.2.isNone = true then (some (bt103.1, none)) else (some (0, some (bt103.2.getD 0))))) else (fastfloat_ParseInt64.l0 kj13 a0 (IntKind.u64.wrap (x4_2 + 1)) x5_6 (wrap64 ((wrap64 (x6_2 * 10)) + (((bt a0 x4_2) - 48) % 256))) x4_6)) else (none)) else (none)) = some (r1, r2) := by rw [if_pos rfl] at H; exact H
                        clear H
                        have H := H1
                        clear H1
                        by_cases c21 : 0 ≤ x4_2
                        · rw [if_pos c21] at H
                          have c21b0 : decide (0 ≤ x4_2) = true := decide_eq_true c21
                          clear c21
                          by_cases c22 : x4_2 < (a0.size : Int)
                          · rw [if_pos c22] at H
                            have c22b0 : decide (x4_2 < (a0.size : Int)) = true := decide_eq_true c22
                            clear c22
                            by_cases c24 : (IntKind.u64.wrap (x4_2 + 1)) > 18
                            · rw [if_pos c24] at H
                              have c24b0 : decide (18 < (IntKind.u64.wrap (x4_2 + 1))) = true := decide_eq_true c24
                              clear c24
                              replace H := Option.bind_eq_some_iff.mp H
                              obtain ⟨⟨t103, t104⟩, A250, H⟩ := H
                              replace H : (if t104.isNone = true then (some (t103, none)) else (some (0, some (t104.getD 0)))) = some (r1, r2) := H
                              have A25 := Aside0.mk A250
                              clear A250
                              rcases t104 with _ | q105
                              · have H1 : (some (t103, none)) = some (r1, r2) := by rw [if_pos (show (none : Option Int).isNone = true by rfl)] at H; exact H
                                clear H
                                have H := H1
                                clear H1
                                try simp only [errW_none, errW_some, errX_none, errX_some]
                                simp only [Option.some.injEq, Prod.mk.injEq] at H
                                obtain ⟨rfl, rfl⟩ := H
                                have p23 : 0 ≤ (x4_2 : Int) := of_decide_eq_true (by first | (with_reducible assumption) | assumption)
                                have q23 : x4_2 < (a0.size : Int) := of_decide_eq_true (by first | (with_reducible assumption) | assumption)
                                have hx23 := bt_at a0 x4_2
                                replace p23 := eq_true p23
                                replace q23 := eq_true q23
                                go_wp2_with (first | ((with_reducible refine gate_callee (f := 65) rfl ?_); refine goesL_ (some 56) rfl rfl Tryd.func65 (by kernel_rfl) rfl #[.string a0, .int .i64 10, .int .i64 64] rfl (by (try simp only [List.map_toArray, List.map_cons, List.map_nil]); first | done | rfl | (simp only [List.length_drop, List.length_take]; rfl)) ?_; (with_reducible refine (strconv_ParseInt.calls a0 10 64 t103 none _ ?side1 ?side2 A25.out).mono ?_); (case side1 => repeat (first | exact Kd.C_below HRG0.out (by repeat (first | (with_reducible first | exact HB.out | apply below_alloc | apply pw_below_drewN | apply below_drew1) | exact HB.out)) | exact HRG0.out | (with_reducible refine Kd.C_alloc ?_ _) | (with_reducible refine Kd.C_drewN ?_ _) | (with_reducible refine Kd.C_drew ?_))); (case side2 => repeat (first | exact Kd.C_below HRG1.out (by repeat (first | (with_reducible first | exact HB.out | apply below_alloc | apply pw_below_drewN | apply below_drew1) | exact HB.out)) | exact HRG1.out | (with_reducible refine Kd.C_alloc ?_ _) | (with_reducible refine Kd.C_drewN ?_ _) | (with_reducible refine Kd.C_drew ?_))); rintro e w26 ⟨et_A25_1, ep_A25_1, rfl, hb⟩; refine ⟨_, rfl, ?_⟩; have n0_ := Aside0.mk (below_step (by repeat (first | (with_reducible first | exact HB.out | apply below_alloc | apply pw_below_drewN | apply below_drew1) | exact HB.out)) hb); clear HB; have HB := n0_; clear n0_; (try clear hb); (try clear hb2); (try clear hk); (try clear hi); (try simp only [errW_none, errW_some, errX_none, errX_some])))
                                go_ret2
                                first | exact ⟨0, .nilIface, by first | rfl | (simp [errW_none, errW_some] <;> rfl) | (simp [*, errW_none, errW_some] <;> rfl), by repeat (first | (with_reducible first | exact HB.out | apply below_alloc | apply pw_below_drewN | apply below_drew1) | exact HB.out)⟩ | exact ⟨⟨0, .nilIface, by first | rfl | (simp [errW_none, errW_some] <;> rfl) | (simp [*, errW_none, errW_some] <;> rfl)⟩, by repeat (first | (with_reducible first | exact HB.out | apply below_alloc | apply pw_below_drewN | apply below_drew1) | exact HB.out)⟩
                              · have H1 : (some (0, some q105)) = some (r1, r2) := by rw [if_neg (show ¬ (some q105).isNone = true by simp)] at H; exact H
                                clear H
                                have H := H1
                                clear H1
                                try simp only [errW_none, errW_some, errX_none, errX_some]
                                simp only [Option.some.injEq, Prod.mk.injEq] at H
                                obtain ⟨rfl, rfl⟩ := H
                                have p23 : 0 ≤ (x4_2 : Int) := of_decide_eq_true (by first | (with_reducible assumption) | assumption)
                                have q23 : x4_2 < (a0.size : Int) := of_decide_eq_true (by first | (with_reducible assumption) | assumption)
                                have hx23 := bt_at a0 x4_2
                                replace p23 := eq_true p23
                                replace q23 := eq_true q23
                                go_wp2_with (first | ((with_reducible refine gate_callee (f := 65) rfl ?_); refine goesL_ (some 56) rfl rfl Tryd.func65 (by kernel_rfl) rfl #[.string a0, .int .i64 10, .int .i64 64] rfl (by (try simp only [List.map_toArray, List.map_cons, List.map_nil]); first | done | rfl | (simp only [List.length_drop, List.length_take]; rfl)) ?_; (with_reducible refine (strconv_ParseInt.calls a0 10 64 t103 (some q105) _ ?side1 ?side2 A25.out).mono ?_); (case side1 => repeat (first | exact Kd.C_below HRG0.out (by repeat (first | (with_reducible first | exact HB.out | apply below_alloc | apply pw_below_drewN | apply below_drew1) | exact HB.out)) | exact HRG0.out | (with_reducible refine Kd.C_alloc ?_ _) | (with_reducible refine Kd.C_drewN ?_ _) | (with_reducible refine Kd.C_drew ?_))); (case side2 => repeat (first | exact Kd.C_below HRG1.out (by repeat (first | (with_reducible first | exact HB.out | apply below_alloc | apply pw_below_drewN | apply below_drew1) | exact HB.out)) | exact HRG1.out | (with_reducible refine Kd.C_alloc ?_ _) | (with_reducible refine Kd.C_drewN ?_ _) | (with_reducible refine Kd.C_drew ?_))); rintro e w27 ⟨et_A25_1, ep_A25_1, rfl, hb⟩; refine ⟨_, rfl, ?_⟩; have n0_ := Aside0.mk (below_step (by repeat (first | (with_reducible first | exact HB.out | apply below_alloc | apply pw_below_drewN | apply below_drew1) | exact HB.out)) hb); clear HB; have HB := n0_; clear n0_; (try clear hb); (try clear hb2); (try clear hk); (try clear hi); (try simp only [errW_none, errW_some, errX_none, errX_some])))
                                go_ret2
                                first | exact ⟨et_A25_1, ep_A25_1, by first | rfl | (simp [errW_none, errW_some] <;> rfl) | (simp [*, errW_none, errW_some] <;> rfl), by repeat (first | (with_reducible first | exact HB.out | apply below_alloc | apply pw_below_drewN | apply below_drew1) | exact HB.out)⟩ | exact ⟨⟨et_A25_1, ep_A25_1, by first | rfl | (simp [errW_none, errW_some] <;> rfl) | (simp [*, errW_none, errW_some] <;> rfl)⟩, by repeat (first | (with_reducible first | exact HB.out | apply below_alloc | apply pw_below_drewN | apply below_drew1) | exact HB.out)⟩
                            · rw [if_neg c24] at H
                              have c24b0 : decide (18 < (IntKind.u64.wrap (x4_2 + 1))) = false := decide_eq_false c24
                              clear c24
                              have H' := Aside0.mk H
                              clear H
                              have p23 : 0 ≤ (x4_2 : Int) := of_decide_eq_true (by first | (with_reducible assumption) | assumption)
                              have q23 : x4_2 < (a0.size : Int) := of_decide_eq_true (by first | (with_reducible assumption) | assumption)
                              have hx23 := bt_at a0 x4_2
                              replace p23 := eq_true p23
                              replace q23 := eq_true q23
                              go_wp2
                              go_roundg kj13
                              case measure => have := HJ6.out; have := HK2.out; have := HJ13.out; omega
                              case rel => exact ⟨(IntKind.u64.wrap (x4_2 + 1)), (wrap64 ((wrap64 (x6_2 * 10)) + (((bt a0 x4_2) - 48) % 256))), (by first | rfl | (simp; done) | (simp [*]; done)), (by first | rfl | (simp; done) | (simp [*]; done)), H', ⟨by have := HJ6.out; have := HK2.out; have := HJ13.out; omega⟩, ⟨by repeat (first | (with_reducible first | exact HB.out | apply below_alloc | apply pw_below_drewN | apply below_drew1) | exact HB.out)⟩⟩
                          · rw [if_neg c22] at H
                            exact absurd H (by simp)
                        · rw [if_neg c21] at H
                          exact absurd H (by simp)
                      · replace c20 := Bool.eq_false_iff.mpr c20
                        subst c20
                        have H1 : (fastfloat_ParseInt64.j3 kj13 a0 x4_2 x5_6 x6_2 x4_6) = some (r1, r2) := by rw [if_neg (show ¬ (false = true) by decide)] at H; exact H
                        clear H
                        have H := H1
                        clear H1
                        have H' := Aside0.mk H
                        clear H
                        go_wp2
                        go_meet
                        case rel => exact ⟨_, (x4_2), (x6_2), (by first | rfl | (simp; done) | (simp [*]; done)), (by first | rfl | (simp; done) | (simp [*]; done)), H', ⟨by have := HJ6.out; have := HK2.out; have := HJ13.out; first | omega | exact Nat.le_refl _⟩, ⟨by repeat (first | (with_reducible first | exact HB.out | apply below_alloc | apply pw_below_drewN | apply below_drew1) | exact HB.out)⟩⟩
                · rw [if_neg c13] at H
                  have c13b0 : decide (x4_2 < (IntKind.u64.wrap ((a0.size : Int)))) = false := decide_eq_false c13
                  clear c13
                  (first | rw [c13b0] | (simp only [i64_w, i32_w]; rw [c13b0]) | rw [c13b1] | skip)
                  have H' := Aside0.mk H
                  clear H
                  go_wp2
                  go_meet
                  case rel => exact ⟨_, (x4_2), (x6_2), (by first | rfl | (simp; done) | (simp [*]; done)), (by first | rfl | (simp; done) | (simp [*]; done)), H', ⟨by have := HJ6.out; have := HK2.out; first | omega | exact Nat.le_refl _⟩, ⟨by repeat (first | (with_reducible first | exact HB.out | apply below_alloc | apply pw_below_drewN | apply below_drew1) | exact HB.out)⟩⟩
          case rest =>
            clear HC12
            try clear c1
            try clear p1
            try clear q1
            try clear hx1
            try clear c2
            try clear c2b0
            try clear c2b1
            try clear p2
            try clear q2
            try clear hx2
            try clear c4
            try clear c5
            try clear c5b0
            try clear c5b1
            try clear c6
            try clear p6
            try clear q6
            try clear hx6
            try clear qi6
            try clear c8
            try clear c8b0
            try clear c8b1
            try clear c9
            try clear c9b0
            try clear q10
            try clear c13
            try clear c13b0
            try clear c13b1
            try clear c15
            try clear c15b0
            try clear c15b1
            try clear c16
            try clear c16b0
            try clear p17
            try clear q17
            try clear hx17
            try clear c18
            try clear c18b0
            try clear p19
            try clear q19
            try clear hx19
            try clear c20
            try clear c21
            try clear c21b0
            try clear c22
            try clear c22b0
            try clear p23
            try clear q23
            try clear hx23
            try clear c24
            try clear c24b0
            try clear p1
            try clear p17
            try clear p19
            try clear p2
            try clear p23
            try clear p6
            try clear q1
            try clear q105
            try clear q17
            try clear q19
            try clear q23
            try clear q6
            obtain ⟨kq, x4_11, x6_11, rfl, rfl, HA, HJ11, HB⟩ := hcut
            cases kq with
            | zero => exact absurd HA.out (by simp [fastfloat_ParseInt64.j3])
            | succ kj11 =>
              have H := HA.out
              clear HA
              simp only [fastfloat_ParseInt64.j3] at H
              by_cases c28 : x4_11 ≤ x4_6
              · rw [if_pos c28] at H
                have c28b0 : decide (x4_11 ≤ x4_6) = true := decide_eq_true c28
                clear c28
                replace H := Option.bind_eq_some_iff.mp H
                obtain ⟨t106, A290, H⟩ := H
                replace H : (some (0, t106)) = some (r1, r2) := H
                have A29 := Aside0.mk A290
                clear A290
                simp only [Option.some.injEq, Prod.mk.injEq] at H
                obtain ⟨rfl, rfl⟩ := H
                go_wp2_with (first | ((with_reducible refine gate_callee (f := 41) rfl ?_); refine goesL_ (some 66) rfl rfl Tryd.func41 (by kernel_rfl) rfl #[.string (⟨#[99, 97, 110, 110, 111, 116, 32, 112, 97, 114, 115, 101, 32, 105, 110, 116, 54, 52, 32, 102, 114, 111, 109]⟩ : ByteArray)] rfl (by (try simp only [List.map_toArray, List.map_cons, List.map_nil]); first | done | rfl | (simp only [List.length_drop, List.length_take]; rfl)) ?_; (with_reducible refine (errors_New.calls (⟨#[99, 97, 110, 110, 111, 116, 32, 112, 97, 114, 115, 101, 32, 105, 110, 116, 54, 52, 32, 102, 114, 111, 109]⟩ : ByteArray) t106 _ A29.out).mono ?_); rintro e w30 ⟨et_A29_0, ep_A29_0, rfl, hb⟩; refine ⟨_, rfl, ?_⟩; have n0_ := Aside0.mk (below_step (by repeat (first | (with_reducible first | exact HB.out | apply below_alloc | apply pw_below_drewN | apply below_drew1) | exact HB.out)) hb); clear HB; have HB := n0_; clear n0_; (try clear hb); (try clear hb2); (try clear hk); (try clear hi); (try simp only [errW_none, errW_some, errX_none, errX_some])))
                go_ret2
                first | exact ⟨et_A29_0, ep_A29_0, by first | rfl | (simp [errW_none, errW_some] <;> rfl) | (simp [*, errW_none, errW_some] <;> rfl), by repeat (first | (with_reducible first | exact HB.out | apply below_alloc | apply pw_below_drewN | apply below_drew1) | exact HB.out)⟩ | exact ⟨⟨et_A29_0, ep_A29_0, by first | rfl | (simp [errW_none, errW_some] <;> rfl) | (simp [*, errW_none, errW_some] <;> rfl)⟩, by repeat (first | (with_reducible first | exact HB.out | apply below_alloc | apply pw_below_drewN | apply below_drew1) | exact HB.out)⟩
              · rw [if_neg c28] at H
                have c28b0 : decide (x4_11 ≤ x4_6) = false := decide_eq_false c28
                clear c28
                by_cases c31 : x4_11 < (IntKind.u64.wrap ((a0.size : Int)))
                · rw [if_pos c31] at H
                  have c31b0 : decide (x4_11 < (IntKind.u64.wrap ((a0.size : Int)))) = true := decide_eq_true c31
                  clear c31
                  replace H := Option.bind_eq_some_iff.mp H
                  obtain ⟨t107, A320, H⟩ := H
                  replace H : (some (0, t107)) = some (r1, r2) := H
                  have A32 := Aside0.mk A320
                  clear A320
                  simp only [Option.some.injEq, Prod.mk.injEq] at H
                  obtain ⟨rfl, rfl⟩ := H
                  go_wp2_with (first | ((with_reducible refine gate_callee (f := 41) rfl ?_); refine goesL_ (some 72) rfl rfl Tryd.func41 (by kernel_rfl) rfl #[.string (⟨#[117, 110, 112, 97, 114, 115, 101, 100, 32, 116, 97, 105, 108, 32, 108, 101, 102, 116, 32, 97, 102, 116, 101, 114, 32, 112, 97, 114, 115, 105, 110, 103, 32, 105, 110, 116, 54, 52, 32, 102, 111, 114, 109]⟩ : ByteArray)] rfl (by (try simp only [List.map_toArray, List.map_cons, List.map_nil]); first | done | rfl | (simp only [List.length_drop, List.length_take]; rfl)) ?_; (with_reducible refine (errors_New.calls (⟨#[117, 110, 112, 97, 114, 115, 101, 100, 32, 116, 97, 105, 108, 32, 108, 101, 102, 116, 32, 97, 102, 116, 101, 114, 32, 112, 97, 114, 115, 105, 110, 103, 32, 105, 110, 116, 54, 52, 32, 102, 111, 114, 109]⟩ : ByteArray) t107 _ A32.out).mono ?_); rintro e w33 ⟨et_A32_0, ep_A32_0, rfl, hb⟩; refine ⟨_, rfl, ?_⟩; have n0_ := Aside0.mk (below_step (by repeat (first | (with_reducible first | exact HB.out | apply below_alloc | apply pw_below_drewN | apply below_drew1) | exact HB.out)) hb); clear HB; have HB := n0_; clear n0_; (try clear hb); (try clear hb2); (try clear hk); (try clear hi); (try simp only [errW_none, errW_some, errX_none, errX_some])))
                  go_ret2
                  first | exact ⟨et_A32_0, ep_A32_0, by first | rfl | (simp [errW_none, errW_some] <;> rfl) | (simp [*, errW_none, errW_some] <;> rfl), by repeat (first | (with_reducible first | exact HB.out | apply below_alloc | apply pw_below_drewN | apply below_drew1) | exact HB.out)⟩ | exact ⟨⟨et_A32_0, ep_A32_0, by first | rfl | (simp [errW_none, errW_some] <;> rfl) | (simp [*, errW_none, errW_some] <;> rfl)⟩, by repeat (first | (with_reducible first | exact HB.out | apply below_alloc | apply pw_below_drewN | apply below_drew1) | exact HB.out)⟩
                · rw [if_neg c31] at H
                  have c31b0 : decide (x4_11 < (IntKind.u64.wrap ((a0.size : Int)))) = false := decide_eq_false c31
                  clear c31
                  by_cases c34 : x5_6 = true
                  · subst c34
                    have H1 : (some (wrap64 (-x6_11), none)) = some (r1, r2) := by rw [if_pos rfl] at H; exact H
                    clear H
                    have H := H1
                    clear H1
                    simp only [Option.some.injEq, Prod.mk.injEq] at H
                    obtain ⟨rfl, rfl⟩ := H
                    go_wp2
                    go_ret2
                    first | exact ⟨0, .nilIface, by first | rfl | (simp [errW_none, errW_some] <;> rfl) | (simp [*, errW_none, errW_some] <;> rfl), by repeat (first | (with_reducible first | exact HB.out | apply below_alloc | apply pw_below_drewN | apply below_drew1) | exact HB.out)⟩ | exact ⟨⟨0, .nilIface, by first | rfl | (simp [errW_none, errW_some] <;> rfl) | (simp [*, errW_none, errW_some] <;> rfl)⟩, by repeat (first | (with_reducible first | exact HB.out | apply below_alloc | apply pw_below_drewN | apply below_drew1) | exact HB.out)⟩
                  · replace c34 := Bool.eq_false_iff.mpr c34
                    subst c34
                    have H1 : (some (x6_11, none)) = some (r1, r2) := by rw [if_neg (show ¬ (false = true) by decide)] at H; exact H
                    clear H
                    have H := H1
                    clear H1
                    simp only [Option.some.injEq, Prod.mk.injEq] at H
                    obtain ⟨rfl, rfl⟩ := H
                    go_wp2
                    go_ret2
                    first | exact ⟨0, .nilIface, by first | rfl | (simp [errW_none, errW_some] <;> rfl) | (simp [*, errW_none, errW_some] <;> rfl), by repeat (first | (with_reducible first | exact HB.out | apply below_alloc | apply pw_below_drewN | apply below_drew1) | exact HB.out)⟩ | exact ⟨⟨0, .nilIface, by first | rfl | (simp [errW_none, errW_some] <;> rfl) | (simp [*, errW_none, errW_some] <;> rfl)⟩, by repeat (first | (with_reducible first | exact HB.out | apply below_alloc | apply pw_below_drewN | apply below_drew1) | exact HB.out)⟩
    · rw [if_neg c5] at H
      exact absurd H (by simp)

end Go.Proofs.YtnajijaachgipaaDoor.PF
