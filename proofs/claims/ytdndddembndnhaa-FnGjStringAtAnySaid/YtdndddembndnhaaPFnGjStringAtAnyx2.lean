-- PRINTED BY print.sh 35421559b90ae4d0a3588c463048766b98c2df88dd9212a6774a882060cdf62d: not written by this session
import Derived.Test.YtdndddembndnhaaPFnGjStringAtAnyx0
import Derived.Test.YtdndddembndnhaaPFnGjStringAtAnyx1
namespace Go.Proofs.Ytdndddembndnhaa.PFnGjStringAtAny
open Go.RowKit Go.Proofs.YtdndddembndnhaaW.PrintWords Go.Proofs.YtdndddembndnhaaW.PrintLast Go.Proofs.YtdndddembndnhaaW.PrintMore
attribute [local go_sem] max2_int min2_int max_two min_two max_three min_three max_four min_four   -- for this text's walks alone
set_option linter.unusedVariables false
set_option linter.unusedSimpArgs false

/-! ### laws_FnGjStringAtAny: function 6 -/
mutual
def laws_FnGjStringAtAny.j0 : Nat → ByteArray → Int → Bool → Option (Bool)
  | 0, _, _, _ => none
  | k + 1, x0, x1, x34 => if x34 = true then (some true) else ((impl_GjStringAt.f k x0 x1).bind fun bt109 => (laws_FnGjStringAtAny.l0 k x0 x1 bt109.1 bt109.2.1 bt109.2.2.2 0 false x1))
def laws_FnGjStringAtAny.l0 : Nat → ByteArray → Int → Int → ByteArray → Bool → Int → Bool → Int → Option (Bool)
  | 0, _, _, _, _, _, _, _, _ => none
  | k + 1, x0, x1, x5, x6, x8, x9, x10, x11 => if x11 < (x0.size : Int) then (laws_FnGjStringAtAny.j2 k x0 x1 x5 x6 x8 x9 x10 x11 (!x10)) else (laws_FnGjStringAtAny.j2 k x0 x1 x5 x6 x8 x9 x10 x11 false)
def laws_FnGjStringAtAny.j2 : Nat → ByteArray → Int → Int → ByteArray → Bool → Int → Bool → Int → Bool → Option (Bool)
  | 0, _, _, _, _, _, _, _, _, _ => none
  | k + 1, x0, x1, x5, x6, x8, x9, x10, x11, x51 => if x51 = true then (if 0 ≤ x11 then (if x11 < (x0.size : Int) then (if (bt x0 x11) = 92 then (laws_FnGjStringAtAny.l0 k x0 x1 x5 x6 x8 x9 x10 (wrap64 ((wrap64 (x11 + 1)) + 1))) else (if (bt x0 x11) = 34 then (laws_FnGjStringAtAny.l0 k x0 x1 x5 x6 x8 (wrap64 (x11 + 1)) true (wrap64 (x11 + 1))) else (laws_FnGjStringAtAny.l0 k x0 x1 x5 x6 x8 x9 x10 (wrap64 (x11 + 1))))) else (none)) else (none)) else (if x10 = true then (if x8 = true then (if x5 = x9 then (if 0 ≤ (wrap64 (x1 - 1)) then (if (wrap64 (x1 - 1)) ≤ x5 then (if x5 ≤ (x0.size : Int) then (some (x6.toList == (x0.extract ((wrap64 (x1 - 1)) : Int).toNat (x5 : Int).toNat).toList)) else (none)) else (none)) else (none)) else (some false)) else (some false)) else (some (!x8)))
end
def laws_FnGjStringAtAny.f (k : Nat) (a0 : ByteArray) (a1 : Int) : Option (Bool) := if (a0.size : Int) > 2147483647 then (some true) else (if (a0.size : Int) > 4096 then (laws_FnGjStringAtAny.j0 k a0 a1 true) else (if a1 < 1 then (laws_FnGjStringAtAny.j0 k a0 a1 true) else (if a1 > (a0.size : Int) then (laws_FnGjStringAtAny.j0 k a0 a1 true) else (if 0 ≤ (wrap64 (a1 - 1)) then (if (wrap64 (a1 - 1)) < (a0.size : Int) then (laws_FnGjStringAtAny.j0 k a0 a1 ((bt a0 (wrap64 (a1 - 1))) != 34)) else (none)) else (none)))))
theorem laws_FnGjStringAtAny.mono_l : ∀ k, (∀ y0 y1 y2, LeO (laws_FnGjStringAtAny.j0 k y0 y1 y2) (laws_FnGjStringAtAny.j0 (k + 1) y0 y1 y2)) ∧ (∀ y0 y1 y2 y3 y4 y5 y6 y7, LeO (laws_FnGjStringAtAny.l0 k y0 y1 y2 y3 y4 y5 y6 y7) (laws_FnGjStringAtAny.l0 (k + 1) y0 y1 y2 y3 y4 y5 y6 y7)) ∧ (∀ y0 y1 y2 y3 y4 y5 y6 y7 y8, LeO (laws_FnGjStringAtAny.j2 k y0 y1 y2 y3 y4 y5 y6 y7 y8) (laws_FnGjStringAtAny.j2 (k + 1) y0 y1 y2 y3 y4 y5 y6 y7 y8))
  | 0 => ⟨fun _ _ _ r h => by simp [laws_FnGjStringAtAny.j0] at h, fun _ _ _ _ _ _ _ _ r h => by simp [laws_FnGjStringAtAny.l0] at h, fun _ _ _ _ _ _ _ _ _ r h => by simp [laws_FnGjStringAtAny.j2] at h⟩
  | k + 1 => by
    obtain ⟨ih0, ih1, ih2⟩ := laws_FnGjStringAtAny.mono_l k
    refine ⟨?_, ?_, ?_⟩
    · intro y0 y1 y2
      unfold laws_FnGjStringAtAny.j0
      repeat' first
      | (with_reducible exact ih0 _ _ _)
      | (with_reducible exact ih1 _ _ _ _ _ _ _ _)
      | (with_reducible exact ih2 _ _ _ _ _ _ _ _ _)
      | (with_reducible exact impl_GjStringAt.mono _ _ _)
      | (with_reducible exact LeO.refl _)
      | (with_reducible exact LeO.none _)
      | (with_reducible refine LeO.ite ?_ ?_)
      | (with_reducible refine LeO.bind ?_ (fun _ => ?_))
      | exact ih0 _ _ _
      | exact ih1 _ _ _ _ _ _ _ _
      | exact ih2 _ _ _ _ _ _ _ _ _
      | exact impl_GjStringAt.mono _ _ _
      | exact LeO.none _
      | refine LeO.ite ?_ ?_
      | refine LeO.bind ?_ (fun _ => ?_)
    · intro y0 y1 y2 y3 y4 y5 y6 y7
      unfold laws_FnGjStringAtAny.l0
      repeat' first
      | (with_reducible exact ih0 _ _ _)
      | (with_reducible exact ih1 _ _ _ _ _ _ _ _)
      | (with_reducible exact ih2 _ _ _ _ _ _ _ _ _)
      | (with_reducible exact impl_GjStringAt.mono _ _ _)
      | (with_reducible exact LeO.refl _)
      | (with_reducible exact LeO.none _)
      | (with_reducible refine LeO.ite ?_ ?_)
      | (with_reducible refine LeO.bind ?_ (fun _ => ?_))
      | exact ih0 _ _ _
      | exact ih1 _ _ _ _ _ _ _ _
      | exact ih2 _ _ _ _ _ _ _ _ _
      | exact impl_GjStringAt.mono _ _ _
      | exact LeO.none _
      | refine LeO.ite ?_ ?_
      | refine LeO.bind ?_ (fun _ => ?_)
    · intro y0 y1 y2 y3 y4 y5 y6 y7 y8
      unfold laws_FnGjStringAtAny.j2
      repeat' first
      | (with_reducible exact ih0 _ _ _)
      | (with_reducible exact ih1 _ _ _ _ _ _ _ _)
      | (with_reducible exact ih2 _ _ _ _ _ _ _ _ _)
      | (with_reducible exact impl_GjStringAt.mono _ _ _)
      | (with_reducible exact LeO.refl _)
      | (with_reducible exact LeO.none _)
      | (with_reducible refine LeO.ite ?_ ?_)
      | (with_reducible refine LeO.bind ?_ (fun _ => ?_))
      | exact ih0 _ _ _
      | exact ih1 _ _ _ _ _ _ _ _
      | exact ih2 _ _ _ _ _ _ _ _ _
      | exact impl_GjStringAt.mono _ _ _
      | exact LeO.none _
      | refine LeO.ite ?_ ?_
      | refine LeO.bind ?_ (fun _ => ?_)
theorem laws_FnGjStringAtAny.mono : ∀ a0 a1 k, LeO (laws_FnGjStringAtAny.f k a0 a1) (laws_FnGjStringAtAny.f (k + 1) a0 a1) := by
  intro a0 a1 k
  obtain ⟨ih0, ih1, ih2⟩ := laws_FnGjStringAtAny.mono_l k
  unfold laws_FnGjStringAtAny.f
  repeat' first
      | (with_reducible exact ih0 _ _ _)
      | (with_reducible exact ih1 _ _ _ _ _ _ _ _)
      | (with_reducible exact ih2 _ _ _ _ _ _ _ _ _)
      | (with_reducible exact impl_GjStringAt.mono _ _ _)
      | (with_reducible exact LeO.refl _)
      | (with_reducible exact LeO.none _)
      | (with_reducible refine LeO.ite ?_ ?_)
      | (with_reducible refine LeO.bind ?_ (fun _ => ?_))
      | exact ih0 _ _ _
      | exact ih1 _ _ _ _ _ _ _ _
      | exact ih2 _ _ _ _ _ _ _ _ _
      | exact impl_GjStringAt.mono _ _ _
      | exact LeO.none _
      | refine LeO.ite ?_ ?_
      | refine LeO.bind ?_ (fun _ => ?_)
set_option maxHeartbeats 8000000 in
set_option maxRecDepth 100000 in
theorem laws_FnGjStringAtAny.calls (k : Nat) (a0 : ByteArray) (a1 : Int) (r : Bool) (w : World) (h : laws_FnGjStringAtAny.f k a0 a1 = some r) :
    Calls Try.prog 6 #[.string a0, .int .i64 a1] w fun e w' => e = .returned (.bool r) ∧ Drawn0 w w' := by
  have H : (if (a0.size : Int) > 2147483647 then (some true) else (if (a0.size : Int) > 4096 then (laws_FnGjStringAtAny.j0 k a0 a1 true) else (if a1 < 1 then (laws_FnGjStringAtAny.j0 k a0 a1 true) else (if a1 > (a0.size : Int) then (laws_FnGjStringAtAny.j0 k a0 a1 true) else (if 0 ≤ (wrap64 (a1 - 1)) then (if (wrap64 (a1 - 1)) < (a0.size : Int) then (laws_FnGjStringAtAny.j0 k a0 a1 ((bt a0 (wrap64 (a1 - 1))) != 34)) else (none)) else (none)))))) = some r := h
  clear h
  by_cases c3 : (a0.size : Int) > 2147483647
  · rw [if_pos c3] at H
    have c3b0 : decide (2147483647 < (a0.size : Int)) = true := decide_eq_true c3
    have c3b1 : decide (2147483647 < a0.size) = true := decide_eq_true (by omega)
    clear c3
    obtain rfl := Option.some.inj H
    go_enter Try.func6, Try.ntmps6
    go_wp2
    go_ret
    exact ⟨by first | rfl | (simp; done) | (simp [*]; done), by repeat (first | exact Drawn0.refl _ | apply Drawn0.step)⟩
  · rw [if_neg c3] at H
    have c3b0 : decide (2147483647 < (a0.size : Int)) = false := decide_eq_false c3
    have c3b1 : decide (2147483647 < a0.size) = false := decide_eq_false (by omega)
    clear c3
    have HC4 := Aside0.mk H
    clear H
    go_enter Try.func6, Try.ntmps6
    go_upto_region 3 with (fail)
    go_cut [34] (fun v34 wc => ∃ (kq : Nat) (x34_3 : Bool), v34 = .bool x34_3 ∧ Aside0 (laws_FnGjStringAtAny.j0 kq a0 a1 x34_3 = some r) ∧ Aside0 (kq ≤ k) ∧ Drawn0 w wc)
    case first =>
      have H := HC4.out
      clear HC4
      by_cases c5 : (a0.size : Int) > 4096
      · rw [if_pos c5] at H
        have c5b0 : decide (4096 < (a0.size : Int)) = true := decide_eq_true c5
        have c5b1 : decide (4096 < a0.size) = true := decide_eq_true (by omega)
        clear c5
        (first | rw [c5b0] | (simp only [i64_w, i32_w]; rw [c5b0]) | skip)
        have H' := Aside0.mk H
        clear H
        go_wp2
        go_meet
        case rel => exact ⟨_, (true), (by first | rfl | (simp; done) | (simp [*]; done)), H', ⟨by first | omega | exact Nat.le_refl _⟩, by repeat (first | exact Drawn0.refl _ | apply Drawn0.step)⟩
      · rw [if_neg c5] at H
        have c5b0 : decide (4096 < (a0.size : Int)) = false := decide_eq_false c5
        have c5b1 : decide (4096 < a0.size) = false := decide_eq_false (by omega)
        clear c5
        (first | rw [c5b0] | (simp only [i64_w, i32_w]; rw [c5b0]) | skip)
        by_cases c6 : a1 < 1
        · rw [if_pos c6] at H
          have c6b0 : decide (a1 < 1) = true := decide_eq_true c6
          clear c6
          have H' := Aside0.mk H
          clear H
          go_wp2
          go_meet
          case rel => exact ⟨_, (true), (by first | rfl | (simp; done) | (simp [*]; done)), H', ⟨by first | omega | exact Nat.le_refl _⟩, by repeat (first | exact Drawn0.refl _ | apply Drawn0.step)⟩
        · rw [if_neg c6] at H
          have c6b0 : decide (a1 < 1) = false := decide_eq_false c6
          clear c6
          by_cases c7 : a1 > (a0.size : Int)
          · rw [if_pos c7] at H
            have c7b0 : decide ((a0.size : Int) < a1) = true := decide_eq_true c7
            clear c7
            have H' := Aside0.mk H
            clear H
            go_wp2
            go_meet
            case rel => exact ⟨_, (true), (by first | rfl | (simp; done) | (simp [*]; done)), H', ⟨by first | omega | exact Nat.le_refl _⟩, by repeat (first | exact Drawn0.refl _ | apply Drawn0.step)⟩
          · rw [if_neg c7] at H
            have c7b0 : decide ((a0.size : Int) < a1) = false := decide_eq_false c7
            clear c7
            obtain ⟨ji8, hji8⟩ : ∃ j_ : Int, (wrap64 (a1 - 1)) = j_ := ⟨_, rfl⟩
            replace H : (if 0 ≤ (ji8) then (if (ji8) < (a0.size : Int) then (laws_FnGjStringAtAny.j0 k a0 a1 ((bt a0 (ji8)) != 34)) else (none)) else (none)) = some r := by first | (rw [hji8] at H; exact H) | (simp only [hji8] at H ⊢; exact H)
            have hji8w : (IntKind.i64.wrap (a1 - 1)) = ji8 := (i64_w _).trans hji8
            by_cases c9 : 0 ≤ (ji8)
            · rw [if_pos c9] at H
              have c9b0 : decide (0 ≤ (ji8)) = true := decide_eq_true c9
              clear c9
              by_cases c10 : (ji8) < (a0.size : Int)
              · rw [if_pos c10] at H
                have c10b0 : decide ((ji8) < (a0.size : Int)) = true := decide_eq_true c10
                clear c10
                have H' := Aside0.mk H
                clear H
                have p11 : 0 ≤ ((ji8) : Int) := of_decide_eq_true (by first | (with_reducible assumption) | assumption)
                have q11 : (ji8) < (a0.size : Int) := of_decide_eq_true (by first | (with_reducible assumption) | assumption)
                have hx11 := bt_at a0 (ji8)
                replace p11 := eq_true p11
                replace q11 := eq_true q11
                go_wp2
                go_meet
                case rel => exact ⟨_, (((bt a0 (ji8)) != 34)), (by first | rfl | (simp; done) | (simp only [← hji8] <;> (first | rfl | simp)) | (simp [*]; done)), H', ⟨by first | omega | exact Nat.le_refl _⟩, by repeat (first | exact Drawn0.refl _ | apply Drawn0.step)⟩
              · rw [if_neg c10] at H
                exact absurd H (by simp)
            · rw [if_neg c9] at H
              exact absurd H (by simp)
    case rest =>
      clear HC4
      try clear c1
      try clear p1
      try clear q1
      try clear hx1
      try clear p2
      try clear c3
      try clear c3b0
      try clear c3b1
      try clear c5
      try clear c5b0
      try clear c5b1
      try clear c6
      try clear c6b0
      try clear p6
      try clear c7
      try clear c7b0
      try clear c9
      try clear c9b0
      try clear c10
      try clear c10b0
      try clear p11
      try clear q11
      try clear hx11
      try clear p11
      try clear q11
      obtain ⟨kq, x34_3, rfl, HA, HJ3, ⟨mc3, rfl⟩⟩ := hcut
      cases kq with
      | zero => exact absurd HA.out (by simp [laws_FnGjStringAtAny.j0])
      | succ kj3 =>
        have H := HA.out
        clear HA
        simp only [laws_FnGjStringAtAny.j0] at H
        by_cases c12 : x34_3 = true
        · subst c12
          have H1 : (some true) = some r := by rw [if_pos rfl] at H; exact H
          clear H
          have H := H1
          clear H1
          obtain rfl := Option.some.inj H
          go_wp2
          go_ret
          exact ⟨by first | rfl | (simp; done) | (simp [*]; done), by repeat (first | exact Drawn0.refl _ | apply Drawn0.step)⟩
        · replace c12 := Bool.eq_false_iff.mpr c12
          subst c12
          have H1 : ((impl_GjStringAt.f kj3 a0 a1).bind fun bt109 => (laws_FnGjStringAtAny.l0 kj3 a0 a1 bt109.1 bt109.2.1 bt109.2.2.2 0 false a1)) = some r := by rw [if_neg (show ¬ (false = true) by decide)] at H; exact H
          clear H
          have H := H1
          clear H1
          replace H := Option.bind_eq_some_iff.mp H
          obtain ⟨⟨t109, t110, t111, t112⟩, A130, H⟩ := H
          replace H : (laws_FnGjStringAtAny.l0 kj3 a0 a1 t109 t110 t112 0 false a1) = some r := H
          have A13 := Aside0.mk A130
          clear A130
          have H' := Aside0.mk H
          clear H
          go_wp2_with (first | ((with_reducible refine gate_callee (f := 17) rfl ?_); refine goesL_ (some 38) rfl rfl Try.func17 (by kernel_rfl) rfl #[.string a0, .int .i64 a1] rfl (by (try simp only [List.map_toArray, List.map_cons, List.map_nil]); first | done | rfl | (simp only [List.length_drop, List.length_take]; rfl)) ?_; (with_reducible refine (impl_GjStringAt.calls kj3 a0 a1 t109 t110 t111 t112 _ A13.out).mono ?_); rintro e w' ⟨rfl, ⟨nd, rfl⟩⟩; refine ⟨_, rfl, ?_⟩))
          go_loopg [9, 10, 11] kj3 (fun kq v9 v10 v11 w' => ∃ (x9_2 : Int) (x10_2 : Bool) (x11_2 : Int), v9 = .int .i64 x9_2 ∧ v10 = .bool x10_2 ∧ v11 = .int .i64 x11_2 ∧ Aside0 (laws_FnGjStringAtAny.l0 kq a0 a1 t109 t110 t112 x9_2 x10_2 x11_2 = some r) ∧ Aside0 (kq ≤ kj3) ∧ Drawn0 w w')
          case atStart => exact ⟨(0), (false), (a1), (by first | rfl | (simp; done) | (simp [*]; done)), (by first | rfl | (simp; done) | (simp [*]; done)), (by first | rfl | (simp; done) | (simp [*]; done)), H', ⟨Nat.le_refl _⟩, by repeat (first | exact Drawn0.refl _ | apply Drawn0.step)⟩
          case round =>
            clear H'
            try clear c1
            try clear p1
            try clear q1
            try clear hx1
            try clear p2
            try clear c3
            try clear c3b0
            try clear c3b1
            try clear c5
            try clear c5b0
            try clear c5b1
            try clear c6
            try clear c6b0
            try clear p6
            try clear c7
            try clear c7b0
            try clear c9
            try clear c9b0
            try clear c10
            try clear c10b0
            try clear p11
            try clear q11
            try clear hx11
            try clear c12
            try clear p1
            try clear p11
            try clear p2
            try clear p6
            try clear q1
            try clear q11
            obtain ⟨x9_2, x10_2, x11_2, rfl, rfl, rfl, HA, HK2, ⟨m2, rfl⟩⟩ := hrel
            cases gk with
            | zero => exact absurd HA.out (by simp [laws_FnGjStringAtAny.l0])
            | succ k2 =>
              have H := HA.out
              clear HA
              simp only [laws_FnGjStringAtAny.l0] at H
              have HC14 := Aside0.mk H
              clear H
              go_upto_region 8 with (fail)
              go_cut [51] (fun v51 wc => ∃ (kq : Nat) (x51_13 : Bool), v51 = .bool x51_13 ∧ Aside0 (laws_FnGjStringAtAny.j2 kq a0 a1 t109 t110 t112 x9_2 x10_2 x11_2 x51_13 = some r) ∧ Aside0 (kq ≤ k2) ∧ Drawn0 w wc)
              case first =>
                have H := HC14.out
                clear HC14
                by_cases c15 : x11_2 < (a0.size : Int)
                · rw [if_pos c15] at H
                  have c15b0 : decide (x11_2 < (a0.size : Int)) = true := decide_eq_true c15
                  clear c15
                  (first | rw [c15b0] | (simp only [i64_w, i32_w]; rw [c15b0]) | skip)
                  have H' := Aside0.mk H
                  clear H
                  go_wp2
                  go_meet
                  case rel => exact ⟨_, (!x10_2), (by first | rfl | (simp; done) | (simp [*]; done)), H', ⟨by have := HJ3.out; have := HK2.out; first | omega | exact Nat.le_refl _⟩, by repeat (first | exact Drawn0.refl _ | apply Drawn0.step)⟩
                · rw [if_neg c15] at H
                  have c15b0 : decide (x11_2 < (a0.size : Int)) = false := decide_eq_false c15
                  clear c15
                  (first | rw [c15b0] | (simp only [i64_w, i32_w]; rw [c15b0]) | skip)
                  have H' := Aside0.mk H
                  clear H
                  go_wp2
                  go_meet
                  case rel => exact ⟨_, (false), (by first | rfl | (simp; done) | (simp [*]; done)), H', ⟨by have := HJ3.out; have := HK2.out; first | omega | exact Nat.le_refl _⟩, by repeat (first | exact Drawn0.refl _ | apply Drawn0.step)⟩
              case rest =>
                clear HC14
                try clear c1
                try clear p1
                try clear q1
                try clear hx1
                try clear p2
                try clear c3
                try clear c3b0
                try clear c3b1
                try clear c5
                try clear c5b0
                try clear c5b1
                try clear c6
                try clear c6b0
                try clear p6
                try clear c7
                try clear c7b0
                try clear c9
                try clear c9b0
                try clear c10
                try clear c10b0
                try clear p11
                try clear q11
                try clear hx11
                try clear c12
                try clear c15
                try clear c15b0
                try clear p1
                try clear p11
                try clear p2
                try clear p6
                try clear q1
                try clear q11
                obtain ⟨kq, x51_13, rfl, HA, HJ13, ⟨mc13, rfl⟩⟩ := hcut
                cases kq with
                | zero => exact absurd HA.out (by simp [laws_FnGjStringAtAny.j2])
                | succ kj13 =>
                  have H := HA.out
                  clear HA
                  simp only [laws_FnGjStringAtAny.j2] at H
                  by_cases c16 : x51_13 = true
                  · subst c16
                    have H1 : (if 0 ≤ x11_2 then (if x11_2 < (a0.size : Int) then (if (bt a0 x11_2) = 92 then (laws_FnGjStringAtAny.l0 kj13 a0 a1 t109 t110 t112 x9_2 x10_2 (wrap64 ((wrap64 (x11_2 + 1)) + 1))) else (if (bt a0 x11_2) = 34 then (laws_FnGjStringAtAny.l0 kj13 a0 a1 t109 t110 t112 (wrap64 (x11_2 + 1)) true (wrap64 (x11_2 + 1))) else (laws_FnGjStringAtAny.l0 kj13 a0 a1 t109 t110 t112 x9_2 x10_2 (wrap64 (x11_2 + 1))))) else (none)) else (none)) = some r := by rw [if_pos rfl] at H; exact H
                    clear H
                    have H := H1
                    clear H1
                    by_cases c17 : 0 ≤ x11_2
                    · rw [if_pos c17] at H
                      have c17b0 : decide (0 ≤ x11_2) = true := decide_eq_true c17
                      clear c17
                      by_cases c18 : x11_2 < (a0.size : Int)
                      · rw [if_pos c18] at H
                        have c18b0 : decide (x11_2 < (a0.size : Int)) = true := decide_eq_true c18
                        clear c18
                        by_cases c20 : (bt a0 x11_2) = 92
                        · rw [if_pos c20] at H
                          have c20b0 : ((bt a0 x11_2) == 92) = true := beq_iff_eq.mpr c20
                          have c20b1 : ((bt a0 x11_2) != 92) = false := bne_eq_false_iff_eq.mpr c20
                          clear c20
                          have H' := Aside0.mk H
                          clear H
                          have p19 : 0 ≤ (x11_2 : Int) := of_decide_eq_true (by first | (with_reducible assumption) | assumption)
                          have q19 : x11_2 < (a0.size : Int) := of_decide_eq_true (by first | (with_reducible assumption) | assumption)
                          have hx19 := bt_at a0 x11_2
                          replace p19 := eq_true p19
                          replace q19 := eq_true q19
                          go_wp2
                          go_roundg kj13
                          case measure => have := HJ3.out; have := HK2.out; have := HJ13.out; omega
                          case rel => exact ⟨(x9_2), (x10_2), (wrap64 ((wrap64 (x11_2 + 1)) + 1)), (by first | rfl | (simp; done) | (simp [*]; done)), (by first | rfl | (simp; done) | (simp [*]; done)), (by first | rfl | (simp; done) | (simp [*]; done)), H', ⟨by have := HJ3.out; have := HK2.out; have := HJ13.out; omega⟩, by repeat (first | exact Drawn0.refl _ | apply Drawn0.step)⟩
                        · rw [if_neg c20] at H
                          have c20b0 : ((bt a0 x11_2) == 92) = false := beq_eq_false_iff_ne.mpr c20
                          have c20b1 : ((bt a0 x11_2) != 92) = true := bne_iff_ne.mpr c20
                          by_cases c22 : (bt a0 x11_2) = 34
                          · rw [if_pos c22] at H
                            have c22b0 : ((bt a0 x11_2) == 34) = true := beq_iff_eq.mpr c22
                            have c22b1 : ((bt a0 x11_2) != 34) = false := bne_eq_false_iff_eq.mpr c22
                            clear c22
                            have H' := Aside0.mk H
                            clear H
                            have p19 : 0 ≤ (x11_2 : Int) := of_decide_eq_true (by first | (with_reducible assumption) | assumption)
                            have q19 : x11_2 < (a0.size : Int) := of_decide_eq_true (by first | (with_reducible assumption) | assumption)
                            have hx19 := bt_at a0 x11_2
                            replace p19 := eq_true p19
                            replace q19 := eq_true q19
                            have p21 : 0 ≤ (x11_2 : Int) := of_decide_eq_true (by first | (with_reducible assumption) | assumption)
                            have q21 : x11_2 < (a0.size : Int) := of_decide_eq_true (by first | (with_reducible assumption) | assumption)
                            have hx21 := bt_at a0 x11_2
                            replace p21 := eq_true p21
                            replace q21 := eq_true q21
                            go_wp2
                            go_roundg kj13
                            case measure => have := HJ3.out; have := HK2.out; have := HJ13.out; omega
                            case rel => exact ⟨(wrap64 (x11_2 + 1)), (true), (wrap64 (x11_2 + 1)), (by first | rfl | (simp; done) | (simp [*]; done)), (by first | rfl | (simp; done) | (simp [*]; done)), (by first | rfl | (simp; done) | (simp [*]; done)), H', ⟨by have := HJ3.out; have := HK2.out; have := HJ13.out; omega⟩, by repeat (first | exact Drawn0.refl _ | apply Drawn0.step)⟩
                          · rw [if_neg c22] at H
                            have c22b0 : ((bt a0 x11_2) == 34) = false := beq_eq_false_iff_ne.mpr c22
                            have c22b1 : ((bt a0 x11_2) != 34) = true := bne_iff_ne.mpr c22
                            have H' := Aside0.mk H
                            clear H
                            have p19 : 0 ≤ (x11_2 : Int) := of_decide_eq_true (by first | (with_reducible assumption) | assumption)
                            have q19 : x11_2 < (a0.size : Int) := of_decide_eq_true (by first | (with_reducible assumption) | assumption)
                            have hx19 := bt_at a0 x11_2
                            replace p19 := eq_true p19
                            replace q19 := eq_true q19
                            have p21 : 0 ≤ (x11_2 : Int) := of_decide_eq_true (by first | (with_reducible assumption) | assumption)
                            have q21 : x11_2 < (a0.size : Int) := of_decide_eq_true (by first | (with_reducible assumption) | assumption)
                            have hx21 := bt_at a0 x11_2
                            replace p21 := eq_true p21
                            replace q21 := eq_true q21
                            go_wp2
                            go_roundg kj13
                            case measure => have := HJ3.out; have := HK2.out; have := HJ13.out; omega
                            case rel => exact ⟨(x9_2), (x10_2), (wrap64 (x11_2 + 1)), (by first | rfl | (simp; done) | (simp [*]; done)), (by first | rfl | (simp; done) | (simp [*]; done)), (by first | rfl | (simp; done) | (simp [*]; done)), H', ⟨by have := HJ3.out; have := HK2.out; have := HJ13.out; omega⟩, by repeat (first | exact Drawn0.refl _ | apply Drawn0.step)⟩
                      · rw [if_neg c18] at H
                        exact absurd H (by simp)
                    · rw [if_neg c17] at H
                      exact absurd H (by simp)
                  · replace c16 := Bool.eq_false_iff.mpr c16
                    subst c16
                    have H1 : (if x10_2 = true then (if t112 = true then (if t109 = x9_2 then (if 0 ≤ (wrap64 (a1 - 1)) then (if (wrap64 (a1 - 1)) ≤ t109 then (if t109 ≤ (a0.size : Int) then (some (t110.toList == (a0.extract ((wrap64 (a1 - 1)) : Int).toNat (t109 : Int).toNat).toList)) else (none)) else (none)) else (none)) else (some false)) else (some false)) else (some (!t112))) = some r := by rw [if_neg (show ¬ (false = true) by decide)] at H; exact H
                    clear H
                    have H := H1
                    clear H1
                    by_cases c23 : x10_2 = true
                    · subst c23
                      have H1 : (if t112 = true then (if t109 = x9_2 then (if 0 ≤ (wrap64 (a1 - 1)) then (if (wrap64 (a1 - 1)) ≤ t109 then (if t109 ≤ (a0.size : Int) then (some (t110.toList == (a0.extract ((wrap64 (a1 - 1)) : Int).toNat (t109 : Int).toNat).toList)) else (none)) else (none)) else (none)) else (some false)) else (some false)) = some r := by rw [if_pos rfl] at H; exact H
                      clear H
                      have H := H1
                      clear H1
                      by_cases c24 : t112 = true
                      · subst c24
                        have H1 : (if t109 = x9_2 then (if 0 ≤ (wrap64 (a1 - 1)) then (if (wrap64 (a1 - 1)) ≤ t109 then (if t109 ≤ (a0.size : Int) then (some (t110.toList == (a0.extract ((wrap64 (a1 - 1)) : Int).toNat (t109 : Int).toNat).toList)) else (none)) else (none)) else (none)) else (some false)) = some r := by rw [if_pos rfl] at H; exact H
                        clear H
                        have H := H1
                        clear H1
                        by_cases c25 : t109 = x9_2
                        · rw [if_pos c25] at H
                          have c25b0 : (t109 == x9_2) = true := beq_iff_eq.mpr c25
                          have c25b1 : (t109 != x9_2) = false := bne_eq_false_iff_eq.mpr c25
                          clear c25
                          obtain ⟨ji26, hji26⟩ : ∃ j_ : Int, (wrap64 (a1 - 1)) = j_ := ⟨_, rfl⟩
                          replace H : (if 0 ≤ (ji26) then (if (ji26) ≤ t109 then (if t109 ≤ (a0.size : Int) then (some (t110.toList == (a0.extract ((ji26) : Int).toNat (t109 : Int).toNat).toList)) else (none)) else (none)) else (none)) = some r := by first | (rw [hji26] at H; exact H) | (simp only [hji26] at H ⊢; exact H)
                          have hji26w : (IntKind.i64.wrap (a1 - 1)) = ji26 := (i64_w _).trans hji26
                          by_cases c27 : 0 ≤ (ji26)
                          · rw [if_pos c27] at H
                            have c27b0 := eq_true c27
                            have c27b1 : decide (0 ≤ (ji26)) = true := decide_eq_true c27
                            clear c27
                            by_cases c28 : (ji26) ≤ t109
                            · rw [if_pos c28] at H
                              have c28b0 := eq_true c28
                              have c28b1 : decide ((ji26) ≤ t109) = true := decide_eq_true c28
                              clear c28
                              by_cases c29 : t109 ≤ (a0.size : Int)
                              · rw [if_pos c29] at H
                                have c29b0 := eq_true c29
                                have c29b1 : decide (t109 ≤ (a0.size : Int)) = true := decide_eq_true c29
                                clear c29
                                obtain rfl := Option.some.inj H
                                go_wp2
                                go_ret
                                exact ⟨by first | rfl | (simp; done) | (simp only [← hji26] <;> (first | rfl | simp)) | (simp [*]; done), by repeat (first | exact Drawn0.refl _ | apply Drawn0.step)⟩
                              · rw [if_neg c29] at H
                                exact absurd H (by simp)
                            · rw [if_neg c28] at H
                              exact absurd H (by simp)
                          · rw [if_neg c27] at H
                            exact absurd H (by simp)
                        · rw [if_neg c25] at H
                          have c25b0 : (t109 == x9_2) = false := beq_eq_false_iff_ne.mpr c25
                          have c25b1 : (t109 != x9_2) = true := bne_iff_ne.mpr c25
                          obtain rfl := Option.some.inj H
                          go_wp2
                          go_ret
                          exact ⟨by first | rfl | (simp; done) | (simp [*]; done), by repeat (first | exact Drawn0.refl _ | apply Drawn0.step)⟩
                      · replace c24 := Bool.eq_false_iff.mpr c24
                        subst c24
                        have H1 : (some false) = some r := by rw [if_neg (show ¬ (false = true) by decide)] at H; exact H
                        clear H
                        have H := H1
                        clear H1
                        obtain rfl := Option.some.inj H
                        go_wp2
                        go_ret
                        exact ⟨by first | rfl | (simp; done) | (simp [*]; done), by repeat (first | exact Drawn0.refl _ | apply Drawn0.step)⟩
                    · replace c23 := Bool.eq_false_iff.mpr c23
                      subst c23
                      have H1 : (some (!t112)) = some r := by rw [if_neg (show ¬ (false = true) by decide)] at H; exact H
                      clear H
                      have H := H1
                      clear H1
                      obtain rfl := Option.some.inj H
                      go_wp2
                      go_ret
                      exact ⟨by first | rfl | (simp; done) | (simp [*]; done), by repeat (first | exact Drawn0.refl _ | apply Drawn0.step)⟩

/-- THE ONE PURE STATEMENT of laws_FnGjStringAtAny: yours. -/
def laws_FnGjStringAtAny.Pure : Prop := ∀ (a0 : ByteArray) (a1 : Int), a0.size ≤ 140737488351232 → (Lit.int .i64 a1).wf = true → ∃ k, laws_FnGjStringAtAny.f k a0 a1 = some true
theorem laws_FnGjStringAtAny.walk (P : laws_FnGjStringAtAny.Pure) (a0 : ByteArray) (a1 : Int) (w : World) (w0 : a0.size ≤ 140737488351232) (w1 : (Lit.int .i64 a1).wf = true) :
    Calls Try.prog 6 #[.string a0, .int .i64 a1] w fun e w' => e = .returned (.bool true) ∧ Below w.heap.size w w' := by
  obtain ⟨k, h⟩ := P a0 a1 w0 w1
  refine (laws_FnGjStringAtAny.calls k a0 a1 true w h).mono ?_
  rintro e w' ⟨rfl, hd⟩
  exact ⟨rfl, hd.below⟩

end Go.Proofs.Ytdndddembndnhaa.PFnGjStringAtAny
