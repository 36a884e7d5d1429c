-- Written by a program of this session out of the translation (a changed copy of the kit's print); Lean checks it.
import Derived.Test.YtnajijaachgipaaDoorPFx0
import Derived.Test.YtnajijaachgipaaDoorPFx8
namespace Go.Proofs.YtnajijaachgipaaDoor.PF
open Go.RowKit Go.Proofs.YtnajijaachgipaaDoorW.PrintWords Go.Proofs.YtnajijaachgipaaDoorW.PrintLast Go.Proofs.YtnajijaachgipaaDoorW.PrintMore
attribute [local go_sem] max2_int min2_int max_two min_two max_three min_three max_four min_four   -- for this text's walks alone
set_option linter.unusedVariables false
set_option linter.unusedSimpArgs false

/-! ### spec_Int64: function 10 -/
mutual
def spec_Int64.j0 : Nat → ByteArray → Bool → Option (Int × Bool)
  | 0, _, _ => none
  | k + 1, x0, x4 => if x4 = true then (if 1 ≤ (x0.size : Int) then (spec_Int64.j1 k (x0.extract 1 x0.size) x4) else (none)) else (spec_Int64.j1 k x0 x4)
def spec_Int64.j1 : Nat → ByteArray → Bool → Option (Int × Bool)
  | 0, _, _ => none
  | k + 1, x0, x4 => (spec_Uint64.f k x0).bind fun bt108 => (if bt108.2 = true then (if x4 = true then (spec_Int64.j2 k x4 bt108.1 (decide (bt108.1 ≤ 9223372036854775808))) else (spec_Int64.j2 k x4 bt108.1 false)) else (some (0, false)))
def spec_Int64.j2 : Nat → Bool → Int → Bool → Option (Int × Bool)
  | 0, _, _, _ => none
  | k + 1, x4, x5, x25 => if x25 = true then (some (wrap64 (IntKind.u64.wrap (-x5)), true)) else (if x4 = true then (some (0, false)) else (if x5 < 9223372036854775808 then (some (wrap64 (x5), true)) else (some (0, false))))
end
def spec_Int64.f (k : Nat) (a0 : ByteArray) : Option (Int × Bool) := if a0.toList = ([] : List UInt8) then (spec_Int64.j0 k a0 false) else (if 0 < (a0.size : Int) then (spec_Int64.j0 k a0 ((bt a0 0) == 45)) else (none))
theorem spec_Int64.mono_l : ∀ k, (∀ y0 y1, LeO (spec_Int64.j0 k y0 y1) (spec_Int64.j0 (k + 1) y0 y1)) ∧ (∀ y0 y1, LeO (spec_Int64.j1 k y0 y1) (spec_Int64.j1 (k + 1) y0 y1)) ∧ (∀ y0 y1 y2, LeO (spec_Int64.j2 k y0 y1 y2) (spec_Int64.j2 (k + 1) y0 y1 y2))
  | 0 => ⟨fun _ _ r h => by simp [spec_Int64.j0] at h, fun _ _ r h => by simp [spec_Int64.j1] at h, fun _ _ _ r h => by simp [spec_Int64.j2] at h⟩
  | k + 1 => by
    obtain ⟨ih0, ih1, ih2⟩ := spec_Int64.mono_l k
    refine ⟨?_, ?_, ?_⟩
    · intro y0 y1
      unfold spec_Int64.j0
      repeat' first
      | (with_reducible exact ih0 _ _)
      | (with_reducible exact ih1 _ _)
      | (with_reducible exact ih2 _ _ _)
      | (with_reducible exact spec_Uint64.mono _ _)
      | (with_reducible exact LeO.refl _)
      | (with_reducible exact LeO.none _)
      | (with_reducible refine LeO.ite ?_ ?_)
      | (with_reducible refine LeO.bind ?_ (fun _ => ?_))
      | exact ih0 _ _
      | exact ih1 _ _
      | exact ih2 _ _ _
      | exact spec_Uint64.mono _ _
      | exact LeO.none _
      | refine LeO.ite ?_ ?_
      | refine LeO.bind ?_ (fun _ => ?_)
    · intro y0 y1
      unfold spec_Int64.j1
      repeat' first
      | (with_reducible exact ih0 _ _)
      | (with_reducible exact ih1 _ _)
      | (with_reducible exact ih2 _ _ _)
      | (with_reducible exact spec_Uint64.mono _ _)
      | (with_reducible exact LeO.refl _)
      | (with_reducible exact LeO.none _)
      | (with_reducible refine LeO.ite ?_ ?_)
      | (with_reducible refine LeO.bind ?_ (fun _ => ?_))
      | exact ih0 _ _
      | exact ih1 _ _
      | exact ih2 _ _ _
      | exact spec_Uint64.mono _ _
      | exact LeO.none _
      | refine LeO.ite ?_ ?_
      | refine LeO.bind ?_ (fun _ => ?_)
    · intro y0 y1 y2
      unfold spec_Int64.j2
      repeat' first
      | (with_reducible exact ih0 _ _)
      | (with_reducible exact ih1 _ _)
      | (with_reducible exact ih2 _ _ _)
      | (with_reducible exact spec_Uint64.mono _ _)
      | (with_reducible exact LeO.refl _)
      | (with_reducible exact LeO.none _)
      | (with_reducible refine LeO.ite ?_ ?_)
      | (with_reducible refine LeO.bind ?_ (fun _ => ?_))
      | exact ih0 _ _
      | exact ih1 _ _
      | exact ih2 _ _ _
      | exact spec_Uint64.mono _ _
      | exact LeO.none _
      | refine LeO.ite ?_ ?_
      | refine LeO.bind ?_ (fun _ => ?_)
theorem spec_Int64.mono : ∀ a0 k, LeO (spec_Int64.f k a0) (spec_Int64.f (k + 1) a0) := by
  intro a0 k
  obtain ⟨ih0, ih1, ih2⟩ := spec_Int64.mono_l k
  unfold spec_Int64.f
  repeat' first
      | (with_reducible exact ih0 _ _)
      | (with_reducible exact ih1 _ _)
      | (with_reducible exact ih2 _ _ _)
      | (with_reducible exact spec_Uint64.mono _ _)
      | (with_reducible exact LeO.refl _)
      | (with_reducible exact LeO.none _)
      | (with_reducible refine LeO.ite ?_ ?_)
      | (with_reducible refine LeO.bind ?_ (fun _ => ?_))
      | exact ih0 _ _
      | exact ih1 _ _
      | exact ih2 _ _ _
      | exact spec_Uint64.mono _ _
      | exact LeO.none _
      | refine LeO.ite ?_ ?_
      | refine LeO.bind ?_ (fun _ => ?_)
set_option maxHeartbeats 8000000 in
set_option maxRecDepth 100000 in
theorem spec_Int64.calls (k : Nat) (a0 : ByteArray) (r1 : Int) (r2 : Bool) (w : World) (h : spec_Int64.f k a0 = some (r1, r2)) :
    Calls Tryd.prog 10 #[.string a0] w fun e w' => e = .returned (.tuple #[.int .i64 r1, .bool r2]) ∧ Drawn0 w w' := by
  have H : (if a0.toList = ([] : List UInt8) then (spec_Int64.j0 k a0 false) else (if 0 < (a0.size : Int) then (spec_Int64.j0 k a0 ((bt a0 0) == 45)) else (none))) = some (r1, r2) := h
  clear h
  have HC2 := Aside0.mk H
  clear H
  go_enter Tryd.func10, Tryd.ntmps10
  go_upto_region 1 with (fail)
  go_cut [4] (fun v4 wc => ∃ (kq : Nat) (x4_1 : Bool), v4 = .bool x4_1 ∧ Aside0 (spec_Int64.j0 kq a0 x4_1 = some (r1, r2)) ∧ Aside0 (kq ≤ k) ∧ Drawn0 w wc)
  case first =>
    have H := HC2.out
    clear HC2
    by_cases c3 : a0.toList = ([] : List UInt8)
    · rw [if_pos c3] at H
      have c3b0 : (a0.toList == ([] : List UInt8)) = true := beq_iff_eq.mpr c3
      have c3b1 : (a0.toList != ([] : List UInt8)) = false := bne_eq_false_iff_eq.mpr c3
      clear c3
      (first | rw [c3b0] | (simp only [i64_w, i32_w]; rw [c3b0]) | rw [c3b1] | skip)
      have H' := Aside0.mk H
      clear H
      go_wp2
      go_meet
      case rel => exact ⟨_, (false), (by first | rfl | (simp; done) | (simp [*]; done)), H', ⟨by first | omega | exact Nat.le_refl _⟩, by repeat (first | exact Drawn0.refl _ | apply Drawn0.step)⟩
    · rw [if_neg c3] at H
      have c3b0 : (a0.toList == ([] : List UInt8)) = false := beq_eq_false_iff_ne.mpr c3
      have c3b1 : (a0.toList != ([] : List UInt8)) = true := bne_iff_ne.mpr c3
      (first | rw [c3b0] | (simp only [i64_w, i32_w]; rw [c3b0]) | rw [c3b1] | skip)
      by_cases c4 : 0 < (a0.size : Int)
      · rw [if_pos c4] at H
        have c4b0 : decide (0 < (a0.size : Int)) = true := decide_eq_true c4
        have c4b1 : decide (0 < a0.size) = true := decide_eq_true (by omega)
        clear c4
        have H' := Aside0.mk H
        clear H
        have p5 : 0 ≤ (0 : Int) := (by omega)
        have q5 : 0 < a0.size := (by have : (0 : Int) < (a0.size : Int) := of_decide_eq_true (by first | (with_reducible assumption) | assumption); omega)
        have hx5 : ∀ h : 0 < a0.size, ((a0[0]'h).toNat : Int) = bt a0 0 := bt_at a0 0
        clear p5
        have qi5 : (0 < (a0.size : Int)) = True := eq_true (of_decide_eq_true (by first | (with_reducible assumption) | assumption))
        replace q5 := eq_true q5
        go_wp2
        go_meet
        case rel => exact ⟨_, (((bt a0 0) == 45)), (by first | rfl | (simp; done) | (simp [*]; done)), H', ⟨by first | omega | exact Nat.le_refl _⟩, by repeat (first | exact Drawn0.refl _ | apply Drawn0.step)⟩
      · rw [if_neg c4] at H
        exact absurd H (by simp)
  case rest =>
    clear HC2
    try clear c1
    try clear p2
    try clear c3
    try clear c3b0
    try clear c3b1
    try clear c4
    try clear c4b0
    try clear c4b1
    try clear p5
    try clear q5
    try clear hx5
    try clear qi5
    try clear p5
    try clear q5
    obtain ⟨kq, x4_1, rfl, HA, HJ1, ⟨mc1, rfl⟩⟩ := hcut
    cases kq with
    | zero => exact absurd HA.out (by simp [spec_Int64.j0])
    | succ kj1 =>
      have H := HA.out
      clear HA
      simp only [spec_Int64.j0] at H
      have HC6 := Aside0.mk H
      clear H
      go_upto_if 14 with (fail)
      go_cut [0] (fun v0 wc => ∃ (kq : Nat) (x0_5 : ByteArray), v0 = .string x0_5 ∧ Aside0 (spec_Int64.j1 kq x0_5 x4_1 = some (r1, r2)) ∧ Aside0 (kq ≤ kj1) ∧ Drawn0 w wc)
      case first =>
        have H := HC6.out
        clear HC6
        by_cases c7 : x4_1 = true
        · subst c7
          have H1 : (if 1 ≤ (a0.size : Int) then (spec_Int64.j1 kj1 (a0.extract 1 a0.size) true) else (none)) = some (r1, r2) := by rw [if_pos rfl] at H; exact H
          clear H
          have H := H1
          clear H1
          by_cases c8 : 1 ≤ (a0.size : Int)
          · rw [if_pos c8] at H
            have c8b0 := eq_true c8
            have c8b1 : decide (1 ≤ (a0.size : Int)) = true := decide_eq_true c8
            clear c8
            obtain ⟨js9, hjs9⟩ : ∃ z_ : ByteArray, (a0.extract 1 a0.size) = z_ := ⟨_, rfl⟩
            replace H : (spec_Int64.j1 kj1 js9 true) = some (r1, r2) := by first | (rw [hjs9] at H; exact H) | (simp only [hjs9] at H ⊢; exact H)
            have H' := Aside0.mk H
            clear H
            try have hcs10 := fun W_ : World => run_slice_string_l (P := Tryd.prog) W_ 9 a0 Tryd.underlying9 .i64 1 (by omega) (of_decide_eq_true (by first | (with_reducible assumption) | assumption))
            (try simp only [hjs9] at hcs10)
            go_wp2
            go_meet
            case rel => exact ⟨_, (js9), (by first | rfl | (simp; done) | (simp [*]; done)), H', ⟨by have := HJ1.out; first | omega | exact Nat.le_refl _⟩, by repeat (first | exact Drawn0.refl _ | apply Drawn0.step)⟩
          · rw [if_neg c8] at H
            exact absurd H (by simp)
        · replace c7 := Bool.eq_false_iff.mpr c7
          subst c7
          have H1 : (spec_Int64.j1 kj1 a0 false) = some (r1, r2) := by rw [if_neg (show ¬ (false = true) by decide)] at H; exact H
          clear H
          have H := H1
          clear H1
          have H' := Aside0.mk H
          clear H
          go_wp2
          go_meet
          case rel => exact ⟨_, (a0), (by first | rfl | (simp; done) | (simp [*]; done)), H', ⟨by have := HJ1.out; first | omega | exact Nat.le_refl _⟩, by repeat (first | exact Drawn0.refl _ | apply Drawn0.step)⟩
      case rest =>
        clear HC6
        try clear c1
        try clear p2
        try clear c3
        try clear c3b0
        try clear c3b1
        try clear c4
        try clear c4b0
        try clear c4b1
        try clear p5
        try clear q5
        try clear hx5
        try clear qi5
        try clear c7
        try clear c8
        try clear c8b0
        try clear c8b1
        try clear c10
        try clear p2
        try clear p5
        try clear q5
        obtain ⟨kq, x0_5, rfl, HA, HJ5, ⟨mc5, rfl⟩⟩ := hcut
        cases kq with
        | zero => exact absurd HA.out (by simp [spec_Int64.j1])
        | succ kj5 =>
          have H := HA.out
          clear HA
          simp only [spec_Int64.j1] at H
          replace H := Option.bind_eq_some_iff.mp H
          obtain ⟨⟨t108, t109⟩, A110, H⟩ := H
          replace H : (if t109 = true then (if x4_1 = true then (spec_Int64.j2 kj5 x4_1 t108 (decide (t108 ≤ 9223372036854775808))) else (spec_Int64.j2 kj5 x4_1 t108 false)) else (some (0, false))) = some (r1, r2) := H
          have A11 := Aside0.mk A110
          clear A110
          by_cases c12 : t109 = true
          · subst c12
            have H1 : (if x4_1 = true then (spec_Int64.j2 kj5 x4_1 t108 (decide (t108 ≤ 9223372036854775808))) else (spec_Int64.j2 kj5 x4_1 t108 false)) = some (r1, r2) := by rw [if_pos rfl] at H; exact H
            clear H
            have H := H1
            clear H1
            have HC13 := Aside0.mk H
            clear H
            go_upto_region 7 with (first | ((with_reducible refine gate_callee (f := 24) rfl ?_); refine goesL_ (some 19) rfl rfl Tryd.func24 (by kernel_rfl) rfl #[.string x0_5] rfl (by (try simp only [List.map_toArray, List.map_cons, List.map_nil]); first | done | rfl | (simp only [List.length_drop, List.length_take]; rfl)) ?_; (with_reducible refine (spec_Uint64.calls kj5 x0_5 t108 true _ A11.out).mono ?_); rintro e w' ⟨rfl, ⟨nd, rfl⟩⟩; refine ⟨_, rfl, ?_⟩))
            (try simp only [Act.put, List.setIfInBounds_toArray, List.set_cons_zero, List.set_cons_succ])
            go_cut [25] (fun v25 wc => ∃ (kq : Nat) (x25_12 : Bool), v25 = .bool x25_12 ∧ Aside0 (spec_Int64.j2 kq x4_1 t108 x25_12 = some (r1, r2)) ∧ Aside0 (kq ≤ kj5) ∧ Drawn0 w wc)
            case first =>
              have H := HC13.out
              clear HC13
              by_cases c14 : x4_1 = true
              · subst c14
                have H1 : (spec_Int64.j2 kj5 true t108 (decide (t108 ≤ 9223372036854775808))) = some (r1, r2) := by rw [if_pos rfl] at H; exact H
                clear H
                have H := H1
                clear H1
                have H' := Aside0.mk H
                clear H
                go_wp2
                go_meet
                case rel => exact ⟨_, (decide (t108 ≤ 9223372036854775808)), (by first | rfl | (simp; done) | (simp [*]; done)), H', ⟨by have := HJ1.out; have := HJ5.out; first | omega | exact Nat.le_refl _⟩, by repeat (first | exact Drawn0.refl _ | apply Drawn0.step)⟩
              · replace c14 := Bool.eq_false_iff.mpr c14
                subst c14
                have H1 : (spec_Int64.j2 kj5 false t108 false) = some (r1, r2) := by rw [if_neg (show ¬ (false = true) by decide)] at H; exact H
                clear H
                have H := H1
                clear H1
                have H' := Aside0.mk H
                clear H
                go_wp2
                go_meet
                case rel => exact ⟨_, (false), (by first | rfl | (simp; done) | (simp [*]; done)), H', ⟨by have := HJ1.out; have := HJ5.out; first | omega | exact Nat.le_refl _⟩, by repeat (first | exact Drawn0.refl _ | apply Drawn0.step)⟩
            case rest =>
              clear HC13
              try clear c1
              try clear c2
              try clear p2
              try clear c3
              try clear c3b0
              try clear c3b1
              try clear c4
              try clear c4b0
              try clear c4b1
              try clear c5
              try clear p5
              try clear q5
              try clear hx5
              try clear qi5
              try clear c7
              try clear c8
              try clear c8b0
              try clear c8b1
              try clear c10
              try clear c12
              try clear c14
              try clear p2
              try clear p5
              try clear q5
              obtain ⟨kq, x25_12, rfl, HA, HJ12, ⟨mc12, rfl⟩⟩ := hcut
              cases kq with
              | zero => exact absurd HA.out (by simp [spec_Int64.j2])
              | succ kj12 =>
                have H := HA.out
                clear HA
                simp only [spec_Int64.j2] at H
                by_cases c15 : x25_12 = true
                · subst c15
                  have H1 : (some (wrap64 (IntKind.u64.wrap (-t108)), true)) = some (r1, r2) := by rw [if_pos rfl] at H; exact H
                  clear H
                  have H := H1
                  clear H1
                  simp only [Option.some.injEq, Prod.mk.injEq] at H
                  obtain ⟨rfl, rfl⟩ := H
                  go_wp2
                  go_ret2
                  exact ⟨by first | rfl | (simp; done) | (simp [*]; done), by repeat (first | exact Drawn0.refl _ | apply Drawn0.step)⟩
                · replace c15 := Bool.eq_false_iff.mpr c15
                  subst c15
                  have H1 : (if x4_1 = true then (some (0, false)) else (if t108 < 9223372036854775808 then (some (wrap64 (t108), true)) else (some (0, false)))) = some (r1, r2) := by rw [if_neg (show ¬ (false = true) by decide)] at H; exact H
                  clear H
                  have H := H1
                  clear H1
                  by_cases c16 : x4_1 = true
                  · subst c16
                    have H1 : (some (0, false)) = some (r1, r2) := by rw [if_pos rfl] at H; exact H
                    clear H
                    have H := H1
                    clear H1
                    simp only [Option.some.injEq, Prod.mk.injEq] at H
                    obtain ⟨rfl, rfl⟩ := H
                    go_wp2
                    go_ret2
                    exact ⟨by first | rfl | (simp; done) | (simp [*]; done), by repeat (first | exact Drawn0.refl _ | apply Drawn0.step)⟩
                  · replace c16 := Bool.eq_false_iff.mpr c16
                    subst c16
                    have H1 : (if t108 < 9223372036854775808 then (some (wrap64 (t108), true)) else (some (0, false))) = some (r1, r2) := by rw [if_neg (show ¬ (false = true) by decide)] at H; exact H
                    clear H
                    have H := H1
                    clear H1
                    by_cases c17 : t108 < 9223372036854775808
                    · rw [if_pos c17] at H
                      have c17b0 : decide (t108 < 9223372036854775808) = true := decide_eq_true c17
                      clear c17
                      simp only [Option.some.injEq, Prod.mk.injEq] at H
                      obtain ⟨rfl, rfl⟩ := H
                      go_wp2
                      go_ret2
                      exact ⟨by first | rfl | (simp; done) | (simp [*]; done), by repeat (first | exact Drawn0.refl _ | apply Drawn0.step)⟩
                    · rw [if_neg c17] at H
                      have c17b0 : decide (t108 < 9223372036854775808) = false := decide_eq_false c17
                      clear c17
                      simp only [Option.some.injEq, Prod.mk.injEq] at H
                      obtain ⟨rfl, rfl⟩ := H
                      go_wp2
                      go_ret2
                      exact ⟨by first | rfl | (simp; done) | (simp [*]; done), by repeat (first | exact Drawn0.refl _ | apply Drawn0.step)⟩
          · replace c12 := Bool.eq_false_iff.mpr c12
            subst c12
            have H1 : (some (0, false)) = some (r1, r2) := by rw [if_neg (show ¬ (false = true) by decide)] at H; exact H
            clear H
            have H := H1
            clear H1
            simp only [Option.some.injEq, Prod.mk.injEq] at H
            obtain ⟨rfl, rfl⟩ := H
            go_wp2_with (first | ((with_reducible refine gate_callee (f := 24) rfl ?_); refine goesL_ (some 19) rfl rfl Tryd.func24 (by kernel_rfl) rfl #[.string x0_5] rfl (by (try simp only [List.map_toArray, List.map_cons, List.map_nil]); first | done | rfl | (simp only [List.length_drop, List.length_take]; rfl)) ?_; (with_reducible refine (spec_Uint64.calls kj5 x0_5 t108 false _ A11.out).mono ?_); rintro e w' ⟨rfl, ⟨nd, rfl⟩⟩; refine ⟨_, rfl, ?_⟩))
            go_ret2
            exact ⟨by first | rfl | (simp; done) | (simp [*]; done), by repeat (first | exact Drawn0.refl _ | apply Drawn0.step)⟩

end Go.Proofs.YtnajijaachgipaaDoor.PF
