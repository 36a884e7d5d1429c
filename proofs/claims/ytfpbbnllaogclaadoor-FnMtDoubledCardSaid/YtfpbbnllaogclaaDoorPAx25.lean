-- Written by a program of this session out of the translation (a changed copy of the kit's print); Lean checks it.
import Derived.Test.YtfpbbnllaogclaaDoorPAx0
import Derived.Test.YtfpbbnllaogclaaDoorPAx1
import Derived.Test.YtfpbbnllaogclaaDoorPAx3
import Derived.Test.YtfpbbnllaogclaaDoorPAx7
import Derived.Test.YtfpbbnllaogclaaDoorPAx17
import Derived.Test.YtfpbbnllaogclaaDoorPAx24
namespace Go.Proofs.YtfpbbnllaogclaaDoor.PA
open Go.RowKit Go.Proofs.YtfpbbnllaogclaaDoorW.PrintWords Go.Proofs.YtfpbbnllaogclaaDoorW.PrintLast Go.Proofs.YtfpbbnllaogclaaDoorW.PrintMore
attribute [local go_sem] max2_int min2_int max_two min_two max_three min_three max_four min_four   -- for this text's walks alone
set_option linter.unusedVariables false
set_option linter.unusedSimpArgs false

/-! ### laws_FnMtDoubled: function 4 -/
mutual
def laws_FnMtDoubled.j0 : Nat → ByteArray → ByteArray → ByteArray → ByteArray → ByteArray → Bool → Option (Bool)
  | 0, _, _, _, _, _, _ => none
  | k + 1, x0, x1, x2, x3, x4, x39 => if x39 = true then (some true) else ((laws_mtTold.f k x0 x1).bind fun bt212 => ((laws_mtTold.f k x2 x3).bind fun bt214 => (if bt212.2 = true then (if bt214.2 = true then (if (x4.size : Int) > 4096 then (laws_FnMtDoubled.j1 k x0 x1 x2 x3 x4 bt212.1 bt214.1 true) else ((spec_UTF8.f k x4).bind fun t216 => (laws_FnMtDoubled.j1 k x0 x1 x2 x3 x4 bt212.1 bt214.1 (!t216)))) else (laws_FnMtDoubled.j1 k x0 x1 x2 x3 x4 bt212.1 bt214.1 true)) else (laws_FnMtDoubled.j1 k x0 x1 x2 x3 x4 bt212.1 bt214.1 true))))
def laws_FnMtDoubled.j1 : Nat → ByteArray → ByteArray → ByteArray → ByteArray → ByteArray → Bool → Bool → Bool → Option (Bool)
  | 0, _, _, _, _, _, _, _, _ => none
  | k + 1, x0, x1, x2, x3, x4, x11, x13, x67 => if x67 = true then (some true) else (if x0.size + x4.size ≤ 9223372036854775807 then (if x0.size + x4.size + x2.size ≤ 9223372036854775807 then (if x1.size + 1 ≤ 9223372036854775807 then (if x1.size + 1 + x3.size ≤ 9223372036854775807 then ((impl_MtMatch.f k ((x0 ++ x4) ++ x2) ((x1 ++ (⟨#[42]⟩ : ByteArray)) ++ x3)).bind fun t217 => (if x1.size + 2 ≤ 9223372036854775807 then (if x1.size + 2 + x3.size ≤ 9223372036854775807 then ((impl_MtMatch.f k ((x0 ++ x4) ++ x2) ((x1 ++ (⟨#[42, 42]⟩ : ByteArray)) ++ x3)).bind fun t218 => (if (t217 != t218) = true then (some false) else ((impl_MtMatch.f k ((x0 ++ x4) ++ x2) ((x1 ++ (⟨#[42, 63]⟩ : ByteArray)) ++ x3)).bind fun t219 => ((impl_MtMatch.f k ((x0 ++ x4) ++ x2) ((x1 ++ (⟨#[63, 42]⟩ : ByteArray)) ++ x3)).bind fun t220 => (if (t219 != t220) = true then (some false) else (if t217 = true then (some true) else (if x11 = true then (some (!x13)) else (some true)))))))) else (none)) else (none))) else (none)) else (none)) else (none)) else (none))
end
def laws_FnMtDoubled.f (k : Nat) (a0 : ByteArray) (a1 : ByteArray) (a2 : ByteArray) (a3 : ByteArray) (a4 : ByteArray) : Option (Bool) := if (a0.size : Int) > 2147483647 then (laws_FnMtDoubled.j0 k a0 a1 a2 a3 a4 true) else (if (a1.size : Int) > 2147483647 then (laws_FnMtDoubled.j0 k a0 a1 a2 a3 a4 true) else (if (a2.size : Int) > 2147483647 then (laws_FnMtDoubled.j0 k a0 a1 a2 a3 a4 true) else (if (a3.size : Int) > 2147483647 then (laws_FnMtDoubled.j0 k a0 a1 a2 a3 a4 true) else (laws_FnMtDoubled.j0 k a0 a1 a2 a3 a4 (decide ((a4.size : Int) > 2147483647))))))
theorem laws_FnMtDoubled.mono_l : ∀ k, (∀ y0 y1 y2 y3 y4 y5, LeO (laws_FnMtDoubled.j0 k y0 y1 y2 y3 y4 y5) (laws_FnMtDoubled.j0 (k + 1) y0 y1 y2 y3 y4 y5)) ∧ (∀ y0 y1 y2 y3 y4 y5 y6 y7, LeO (laws_FnMtDoubled.j1 k y0 y1 y2 y3 y4 y5 y6 y7) (laws_FnMtDoubled.j1 (k + 1) y0 y1 y2 y3 y4 y5 y6 y7))
  | 0 => ⟨fun _ _ _ _ _ _ r h => by simp [laws_FnMtDoubled.j0] at h, fun _ _ _ _ _ _ _ _ r h => by simp [laws_FnMtDoubled.j1] at h⟩
  | k + 1 => by
    obtain ⟨ih0, ih1⟩ := laws_FnMtDoubled.mono_l k
    refine ⟨?_, ?_⟩
    · intro y0 y1 y2 y3 y4 y5
      unfold laws_FnMtDoubled.j0
      repeat' first
      | (with_reducible exact ih0 _ _ _ _ _ _)
      | (with_reducible exact ih1 _ _ _ _ _ _ _ _)
      | (with_reducible exact impl_MtMatch.mono _ _ _)
      | (with_reducible exact laws_mtTold.mono _ _ _)
      | (with_reducible exact spec_UTF8.mono _ _)
      | (with_reducible exact LeO.refl _)
      | (with_reducible exact LeO.none _)
      | (with_reducible refine LeO.ite ?_ ?_)
      | (with_reducible refine LeO.bind ?_ (fun _ => ?_))
      | exact ih0 _ _ _ _ _ _
      | exact ih1 _ _ _ _ _ _ _ _
      | exact impl_MtMatch.mono _ _ _
      | exact laws_mtTold.mono _ _ _
      | exact spec_UTF8.mono _ _
      | exact LeO.none _
      | refine LeO.ite ?_ ?_
      | refine LeO.bind ?_ (fun _ => ?_)
    · intro y0 y1 y2 y3 y4 y5 y6 y7
      unfold laws_FnMtDoubled.j1
      repeat' first
      | (with_reducible exact ih0 _ _ _ _ _ _)
      | (with_reducible exact ih1 _ _ _ _ _ _ _ _)
      | (with_reducible exact impl_MtMatch.mono _ _ _)
      | (with_reducible exact laws_mtTold.mono _ _ _)
      | (with_reducible exact spec_UTF8.mono _ _)
      | (with_reducible exact LeO.refl _)
      | (with_reducible exact LeO.none _)
      | (with_reducible refine LeO.ite ?_ ?_)
      | (with_reducible refine LeO.bind ?_ (fun _ => ?_))
      | exact ih0 _ _ _ _ _ _
      | exact ih1 _ _ _ _ _ _ _ _
      | exact impl_MtMatch.mono _ _ _
      | exact laws_mtTold.mono _ _ _
      | exact spec_UTF8.mono _ _
      | exact LeO.none _
      | refine LeO.ite ?_ ?_
      | refine LeO.bind ?_ (fun _ => ?_)
theorem laws_FnMtDoubled.mono : ∀ a0 a1 a2 a3 a4 k, LeO (laws_FnMtDoubled.f k a0 a1 a2 a3 a4) (laws_FnMtDoubled.f (k + 1) a0 a1 a2 a3 a4) := by
  intro a0 a1 a2 a3 a4 k
  obtain ⟨ih0, ih1⟩ := laws_FnMtDoubled.mono_l k
  unfold laws_FnMtDoubled.f
  repeat' first
      | (with_reducible exact ih0 _ _ _ _ _ _)
      | (with_reducible exact ih1 _ _ _ _ _ _ _ _)
      | (with_reducible exact impl_MtMatch.mono _ _ _)
      | (with_reducible exact laws_mtTold.mono _ _ _)
      | (with_reducible exact spec_UTF8.mono _ _)
      | (with_reducible exact LeO.refl _)
      | (with_reducible exact LeO.none _)
      | (with_reducible refine LeO.ite ?_ ?_)
      | (with_reducible refine LeO.bind ?_ (fun _ => ?_))
      | exact ih0 _ _ _ _ _ _
      | exact ih1 _ _ _ _ _ _ _ _
      | exact impl_MtMatch.mono _ _ _
      | exact laws_mtTold.mono _ _ _
      | exact spec_UTF8.mono _ _
      | exact LeO.none _
      | refine LeO.ite ?_ ?_
      | refine LeO.bind ?_ (fun _ => ?_)
set_option maxHeartbeats 8000000 in
set_option maxRecDepth 100000 in
theorem laws_FnMtDoubled.calls (k : Nat) (a0 : ByteArray) (a1 : ByteArray) (a2 : ByteArray) (a3 : ByteArray) (a4 : ByteArray) (r : Bool) (w : World) (hT4 : Kd.C (Kd.int .u8) w (some ⟨4, 0, none⟩) tabG4.length tabG4) (hT5 : Kd.C k159 w (some ⟨5, 0, none⟩) tabG5.length tabG5) (h : laws_FnMtDoubled.f k a0 a1 a2 a3 a4 = some r) :
    Calls Tryd.prog 4 #[.string a0, .string a1, .string a2, .string a3, .string a4] w fun e w' => e = .returned (.bool r) ∧ Below w.heap.size w w' := by
  have HRG4 := Aside0.mk hT4
  clear hT4
  have HRG5 := Aside0.mk hT5
  clear hT5
  have HB := Aside0.mk (Below.refl w.heap.size w)
  have H : (if (a0.size : Int) > 2147483647 then (laws_FnMtDoubled.j0 k a0 a1 a2 a3 a4 true) else (if (a1.size : Int) > 2147483647 then (laws_FnMtDoubled.j0 k a0 a1 a2 a3 a4 true) else (if (a2.size : Int) > 2147483647 then (laws_FnMtDoubled.j0 k a0 a1 a2 a3 a4 true) else (if (a3.size : Int) > 2147483647 then (laws_FnMtDoubled.j0 k a0 a1 a2 a3 a4 true) else (laws_FnMtDoubled.j0 k a0 a1 a2 a3 a4 (decide ((a4.size : Int) > 2147483647))))))) = some r := h
  clear h
  have HC6 := Aside0.mk H
  clear H
  go_enter Tryd.func4, Tryd.ntmps4
  go_upto_region 1 with (fail)
  go_cut [39] (fun v39 wc => ∃ (kq : Nat) (x39_5 : Bool), v39 = .bool x39_5 ∧ Aside0 (laws_FnMtDoubled.j0 kq a0 a1 a2 a3 a4 x39_5 = some r) ∧ Aside0 (kq ≤ k) ∧ Aside0 (Below w.heap.size w wc))
  case first =>
    have H := HC6.out
    clear HC6
    by_cases c7 : (a0.size : Int) > 2147483647
    · rw [if_pos c7] at H
      have c7b0 : decide (2147483647 < (a0.size : Int)) = true := decide_eq_true c7
      have c7b1 : decide (2147483647 < a0.size) = true := decide_eq_true (by omega)
      clear c7
      (first | rw [c7b0] | (simp only [i64_w, i32_w]; rw [c7b0]) | rw [c7b1] | skip)
      as_aux_lemma =>
        have H' := Aside0.mk H
        clear H
        go_wp2
        go_meet
        case rel => exact ⟨_, (true), (by first | rfl | (simp; done) | (simp [*]; done)), H', ⟨by first | omega | exact Nat.le_refl _⟩, ⟨by repeat (first | (with_reducible first | exact HB.out | apply below_alloc | apply pw_below_drewN | apply below_drew1) | exact HB.out)⟩⟩
    · rw [if_neg c7] at H
      have c7b0 : decide (2147483647 < (a0.size : Int)) = false := decide_eq_false c7
      have c7b1 : decide (2147483647 < a0.size) = false := decide_eq_false (by omega)
      clear c7
      (first | rw [c7b0] | (simp only [i64_w, i32_w]; rw [c7b0]) | rw [c7b1] | skip)
      by_cases c8 : (a1.size : Int) > 2147483647
      · rw [if_pos c8] at H
        have c8b0 : decide (2147483647 < (a1.size : Int)) = true := decide_eq_true c8
        have c8b1 : decide (2147483647 < a1.size) = true := decide_eq_true (by omega)
        clear c8
        as_aux_lemma =>
          have H' := Aside0.mk H
          clear H
          go_wp2
          go_meet
          case rel => exact ⟨_, (true), (by first | rfl | (simp; done) | (simp [*]; done)), H', ⟨by first | omega | exact Nat.le_refl _⟩, ⟨by repeat (first | (with_reducible first | exact HB.out | apply below_alloc | apply pw_below_drewN | apply below_drew1) | exact HB.out)⟩⟩
      · rw [if_neg c8] at H
        have c8b0 : decide (2147483647 < (a1.size : Int)) = false := decide_eq_false c8
        have c8b1 : decide (2147483647 < a1.size) = false := decide_eq_false (by omega)
        clear c8
        by_cases c9 : (a2.size : Int) > 2147483647
        · rw [if_pos c9] at H
          have c9b0 : decide (2147483647 < (a2.size : Int)) = true := decide_eq_true c9
          have c9b1 : decide (2147483647 < a2.size) = true := decide_eq_true (by omega)
          clear c9
          as_aux_lemma =>
            have H' := Aside0.mk H
            clear H
            go_wp2
            go_meet
            case rel => exact ⟨_, (true), (by first | rfl | (simp; done) | (simp [*]; done)), H', ⟨by first | omega | exact Nat.le_refl _⟩, ⟨by repeat (first | (with_reducible first | exact HB.out | apply below_alloc | apply pw_below_drewN | apply below_drew1) | exact HB.out)⟩⟩
        · rw [if_neg c9] at H
          have c9b0 : decide (2147483647 < (a2.size : Int)) = false := decide_eq_false c9
          have c9b1 : decide (2147483647 < a2.size) = false := decide_eq_false (by omega)
          clear c9
          by_cases c10 : (a3.size : Int) > 2147483647
          · rw [if_pos c10] at H
            have c10b0 : decide (2147483647 < (a3.size : Int)) = true := decide_eq_true c10
            have c10b1 : decide (2147483647 < a3.size) = true := decide_eq_true (by omega)
            clear c10
            as_aux_lemma =>
              have H' := Aside0.mk H
              clear H
              go_wp2
              go_meet
              case rel => exact ⟨_, (true), (by first | rfl | (simp; done) | (simp [*]; done)), H', ⟨by first | omega | exact Nat.le_refl _⟩, ⟨by repeat (first | (with_reducible first | exact HB.out | apply below_alloc | apply pw_below_drewN | apply below_drew1) | exact HB.out)⟩⟩
          · rw [if_neg c10] at H
            have c10b0 : decide (2147483647 < (a3.size : Int)) = false := decide_eq_false c10
            have c10b1 : decide (2147483647 < a3.size) = false := decide_eq_false (by omega)
            clear c10
            as_aux_lemma =>
              have H' := Aside0.mk H
              clear H
              go_wp2
              go_meet
              case rel => exact ⟨_, (decide ((a4.size : Int) > 2147483647)), (by first | rfl | (simp; done) | (simp [*]; done)), H', ⟨by first | omega | exact Nat.le_refl _⟩, ⟨by repeat (first | (with_reducible first | exact HB.out | apply below_alloc | apply pw_below_drewN | apply below_drew1) | exact HB.out)⟩⟩
  case rest =>
    clear HC6
    try clear c1
    try clear p2
    try clear c4
    try clear c7
    try clear c7b0
    try clear c7b1
    try clear c8
    try clear c8b0
    try clear c8b1
    try clear c9
    try clear c9b0
    try clear c9b1
    try clear c10
    try clear c10b0
    try clear c10b1
    obtain ⟨kq, x39_5, rfl, HA, HJ5, HB⟩ := hcut
    cases kq with
    | zero => exact absurd HA.out (by simp [laws_FnMtDoubled.j0])
    | succ kj5 =>
      have H := HA.out
      clear HA
      simp only [laws_FnMtDoubled.j0] at H
      by_cases c11 : x39_5 = true
      · subst c11
        have H1 : (some true) = some r := by rw [if_pos rfl] at H; exact H
        clear H
        have H := H1
        clear H1
        as_aux_lemma =>
          obtain rfl := Option.some.inj H
          go_wp2
          go_ret
          exact ⟨by first | rfl | (simp [errW_none, errW_some] <;> rfl) | (simp [*, errW_none, errW_some] <;> rfl), by repeat (first | (with_reducible first | exact HB.out | apply below_alloc | apply pw_below_drewN | apply below_drew1) | exact HB.out)⟩
      · replace c11 := Bool.eq_false_iff.mpr c11
        subst c11
        have H1 : ((laws_mtTold.f kj5 a0 a1).bind fun bt212 => ((laws_mtTold.f kj5 a2 a3).bind fun bt214 => (if bt212.2 = true then (if bt214.2 = true then (if (a4.size : Int) > 4096 then (laws_FnMtDoubled.j1 kj5 a0 a1 a2 a3 a4 bt212.1 bt214.1 true) else ((spec_UTF8.f kj5 a4).bind fun t216 => (laws_FnMtDoubled.j1 kj5 a0 a1 a2 a3 a4 bt212.1 bt214.1 (!t216)))) else (laws_FnMtDoubled.j1 kj5 a0 a1 a2 a3 a4 bt212.1 bt214.1 true)) else (laws_FnMtDoubled.j1 kj5 a0 a1 a2 a3 a4 bt212.1 bt214.1 true)))) = some r := by rw [if_neg (show ¬ (false = true) by decide)] at H; exact H
        clear H
        have H := H1
        clear H1
        replace H := Option.bind_eq_some_iff.mp H
        obtain ⟨⟨t212, t213⟩, A120, H⟩ := H
        replace H : ((laws_mtTold.f kj5 a2 a3).bind fun bt214 => (if t213 = true then (if bt214.2 = true then (if (a4.size : Int) > 4096 then (laws_FnMtDoubled.j1 kj5 a0 a1 a2 a3 a4 t212 bt214.1 true) else ((spec_UTF8.f kj5 a4).bind fun t216 => (laws_FnMtDoubled.j1 kj5 a0 a1 a2 a3 a4 t212 bt214.1 (!t216)))) else (laws_FnMtDoubled.j1 kj5 a0 a1 a2 a3 a4 t212 bt214.1 true)) else (laws_FnMtDoubled.j1 kj5 a0 a1 a2 a3 a4 t212 bt214.1 true))) = some r := H
        have A12 := Aside0.mk A120
        clear A120
        replace H := Option.bind_eq_some_iff.mp H
        obtain ⟨⟨t214, t215⟩, A130, H⟩ := H
        replace H : (if t213 = true then (if t215 = true then (if (a4.size : Int) > 4096 then (laws_FnMtDoubled.j1 kj5 a0 a1 a2 a3 a4 t212 t214 true) else ((spec_UTF8.f kj5 a4).bind fun t216 => (laws_FnMtDoubled.j1 kj5 a0 a1 a2 a3 a4 t212 t214 (!t216)))) else (laws_FnMtDoubled.j1 kj5 a0 a1 a2 a3 a4 t212 t214 true)) else (laws_FnMtDoubled.j1 kj5 a0 a1 a2 a3 a4 t212 t214 true)) = some r := H
        have A13 := Aside0.mk A130
        clear A130
        have HC14 := Aside0.mk H
        clear H
        go_upto_region 5 with (first | ((with_reducible refine gate_callee (f := 12) rfl ?_); refine goesL_ (some 43) rfl rfl Tryd.func12 (by kernel_rfl) rfl #[.string a0, .string a1] rfl (by (try simp only [List.map_toArray, List.map_cons, List.map_nil]); first | done | rfl | (simp only [List.length_drop, List.length_take]; rfl)) ?_; (with_reducible refine (laws_mtTold.calls kj5 a0 a1 t212 t213 _ A12.out).mono ?_); rintro e w15 ⟨rfl, hb⟩; refine ⟨_, rfl, ?_⟩; have n0_ := Aside0.mk (below_step (by repeat (first | (with_reducible first | exact HB.out | apply below_alloc | apply pw_below_drewN | apply below_drew1) | exact HB.out)) hb); clear HB; have HB := n0_; clear n0_; (try clear hb); (try clear hb2); (try clear hk); (try clear hi)) | ((with_reducible refine gate_callee (f := 12) rfl ?_); refine goesL_ (some 49) rfl rfl Tryd.func12 (by kernel_rfl) rfl #[.string a2, .string a3] rfl (by (try simp only [List.map_toArray, List.map_cons, List.map_nil]); first | done | rfl | (simp only [List.length_drop, List.length_take]; rfl)) ?_; (with_reducible refine (laws_mtTold.calls kj5 a2 a3 t214 t215 _ A13.out).mono ?_); rintro e w16 ⟨rfl, hb⟩; refine ⟨_, rfl, ?_⟩; have n0_ := Aside0.mk (below_step (by repeat (first | (with_reducible first | exact HB.out | apply below_alloc | apply pw_below_drewN | apply below_drew1) | exact HB.out)) hb); clear HB; have HB := n0_; clear n0_; (try clear hb); (try clear hb2); (try clear hk); (try clear hi)))
        (try simp only [Act.put, List.setIfInBounds_toArray, List.set_cons_zero, List.set_cons_succ])
        go_cut [67] (fun v67 wc => ∃ (kq : Nat) (x67_13 : Bool), v67 = .bool x67_13 ∧ Aside0 (laws_FnMtDoubled.j1 kq a0 a1 a2 a3 a4 t212 t214 x67_13 = some r) ∧ Aside0 (kq ≤ kj5) ∧ Aside0 (Below w.heap.size w wc))
        case first =>
          have H := HC14.out
          clear HC14
          by_cases c17 : t213 = true
          · subst c17
            have H1 : (if t215 = true then (if (a4.size : Int) > 4096 then (laws_FnMtDoubled.j1 kj5 a0 a1 a2 a3 a4 t212 t214 true) else ((spec_UTF8.f kj5 a4).bind fun t216 => (laws_FnMtDoubled.j1 kj5 a0 a1 a2 a3 a4 t212 t214 (!t216)))) else (laws_FnMtDoubled.j1 kj5 a0 a1 a2 a3 a4 t212 t214 true)) = some r := by rw [if_pos rfl] at H; exact H
            clear H
            have H := H1
            clear H1
            by_cases c18 : t215 = true
            · subst c18
              have H1 : (if (a4.size : Int) > 4096 then (laws_FnMtDoubled.j1 kj5 a0 a1 a2 a3 a4 t212 t214 true) else ((spec_UTF8.f kj5 a4).bind fun t216 => (laws_FnMtDoubled.j1 kj5 a0 a1 a2 a3 a4 t212 t214 (!t216)))) = some r := by rw [if_pos rfl] at H; exact H
              clear H
              have H := H1
              clear H1
              by_cases c19 : (a4.size : Int) > 4096
              · rw [if_pos c19] at H
                have c19b0 : decide (4096 < (a4.size : Int)) = true := decide_eq_true c19
                have c19b1 : decide (4096 < a4.size) = true := decide_eq_true (by omega)
                clear c19
                (first | rw [c19b0] | (simp only [i64_w, i32_w]; rw [c19b0]) | rw [c19b1] | skip)
                as_aux_lemma =>
                  have H' := Aside0.mk H
                  clear H
                  go_wp2
                  go_meet
                  case rel => exact ⟨_, (true), (by first | rfl | (simp; done) | (simp [*]; done)), H', ⟨by have := HJ5.out; first | omega | exact Nat.le_refl _⟩, ⟨by repeat (first | (with_reducible first | exact HB.out | apply below_alloc | apply pw_below_drewN | apply below_drew1) | exact HB.out)⟩⟩
              · rw [if_neg c19] at H
                have c19b0 : decide (4096 < (a4.size : Int)) = false := decide_eq_false c19
                have c19b1 : decide (4096 < a4.size) = false := decide_eq_false (by omega)
                clear c19
                (first | rw [c19b0] | (simp only [i64_w, i32_w]; rw [c19b0]) | rw [c19b1] | skip)
                replace H := Option.bind_eq_some_iff.mp H
                obtain ⟨t216, A200, H⟩ := H
                replace H : (laws_FnMtDoubled.j1 kj5 a0 a1 a2 a3 a4 t212 t214 (!t216)) = some r := H
                have A20 := Aside0.mk A200
                clear A200
                as_aux_lemma =>
                  have H' := Aside0.mk H
                  clear H
                  go_wp2_with (first | (go_at_call 9; (with_reducible refine (spec_UTF8.calls kj5 a4 t216 _ A20.out).mono ?_); rintro e w' ⟨rfl, ⟨nd, rfl⟩⟩))
                  go_meet
                  case rel => exact ⟨_, (!t216), (by first | rfl | (simp; done) | (simp [*]; done)), H', ⟨by have := HJ5.out; first | omega | exact Nat.le_refl _⟩, ⟨by repeat (first | (with_reducible first | exact HB.out | apply below_alloc | apply pw_below_drewN | apply below_drew1) | exact HB.out)⟩⟩
            · replace c18 := Bool.eq_false_iff.mpr c18
              subst c18
              have H1 : (laws_FnMtDoubled.j1 kj5 a0 a1 a2 a3 a4 t212 t214 true) = some r := by rw [if_neg (show ¬ (false = true) by decide)] at H; exact H
              clear H
              have H := H1
              clear H1
              as_aux_lemma =>
                have H' := Aside0.mk H
                clear H
                go_wp2
                go_meet
                case rel => exact ⟨_, (true), (by first | rfl | (simp; done) | (simp [*]; done)), H', ⟨by have := HJ5.out; first | omega | exact Nat.le_refl _⟩, ⟨by repeat (first | (with_reducible first | exact HB.out | apply below_alloc | apply pw_below_drewN | apply below_drew1) | exact HB.out)⟩⟩
          · replace c17 := Bool.eq_false_iff.mpr c17
            subst c17
            have H1 : (laws_FnMtDoubled.j1 kj5 a0 a1 a2 a3 a4 t212 t214 true) = some r := by rw [if_neg (show ¬ (false = true) by decide)] at H; exact H
            clear H
            have H := H1
            clear H1
            as_aux_lemma =>
              have H' := Aside0.mk H
              clear H
              go_wp2
              go_meet
              case rel => exact ⟨_, (true), (by first | rfl | (simp; done) | (simp [*]; done)), H', ⟨by have := HJ5.out; first | omega | exact Nat.le_refl _⟩, ⟨by repeat (first | (with_reducible first | exact HB.out | apply below_alloc | apply pw_below_drewN | apply below_drew1) | exact HB.out)⟩⟩
        case rest =>
          clear HC14
          try clear c1
          try clear p2
          try clear c4
          try clear c7
          try clear c7b0
          try clear c7b1
          try clear c8
          try clear c8b0
          try clear c8b1
          try clear c9
          try clear c9b0
          try clear c9b1
          try clear c10
          try clear c10b0
          try clear c10b1
          try clear c11
          try clear c12
          try clear c17
          try clear c18
          try clear c19
          try clear c19b0
          try clear c19b1
          try clear p2
          obtain ⟨kq, x67_13, rfl, HA, HJ13, HB⟩ := hcut
          cases kq with
          | zero => exact absurd HA.out (by simp [laws_FnMtDoubled.j1])
          | succ kj13 =>
            have H := HA.out
            clear HA
            simp only [laws_FnMtDoubled.j1] at H
            by_cases c21 : x67_13 = true
            · subst c21
              have H1 : (some true) = some r := by rw [if_pos rfl] at H; exact H
              clear H
              have H := H1
              clear H1
              as_aux_lemma =>
                obtain rfl := Option.some.inj H
                go_wp2
                go_ret
                exact ⟨by first | rfl | (simp [errW_none, errW_some] <;> rfl) | (simp [*, errW_none, errW_some] <;> rfl), by repeat (first | (with_reducible first | exact HB.out | apply below_alloc | apply pw_below_drewN | apply below_drew1) | exact HB.out)⟩
            · replace c21 := Bool.eq_false_iff.mpr c21
              subst c21
              have H1 : (if a0.size + a4.size ≤ 9223372036854775807 then (if a0.size + a4.size + a2.size ≤ 9223372036854775807 then (if a1.size + 1 ≤ 9223372036854775807 then (if a1.size + 1 + a3.size ≤ 9223372036854775807 then ((impl_MtMatch.f kj13 ((a0 ++ a4) ++ a2) ((a1 ++ (⟨#[42]⟩ : ByteArray)) ++ a3)).bind fun t217 => (if a1.size + 2 ≤ 9223372036854775807 then (if a1.size + 2 + a3.size ≤ 9223372036854775807 then ((impl_MtMatch.f kj13 ((a0 ++ a4) ++ a2) ((a1 ++ (⟨#[42, 42]⟩ : ByteArray)) ++ a3)).bind fun t218 => (if (t217 != t218) = true then (some false) else ((impl_MtMatch.f kj13 ((a0 ++ a4) ++ a2) ((a1 ++ (⟨#[42, 63]⟩ : ByteArray)) ++ a3)).bind fun t219 => ((impl_MtMatch.f kj13 ((a0 ++ a4) ++ a2) ((a1 ++ (⟨#[63, 42]⟩ : ByteArray)) ++ a3)).bind fun t220 => (if (t219 != t220) = true then (some false) else (if t217 = true then (some true) else (if t212 = true then (some (!t214)) else (some true)))))))) else (none)) else (none))) else (none)) else (none)) else (none)) else (none)) = some r := by rw [if_neg (show ¬ (false = true) by decide)] at H; exact H
              clear H
              have H := H1
              clear H1
              by_cases c22 : a0.size + a4.size ≤ 9223372036854775807
              · rw [if_pos c22] at H
                have c22b0 := eq_true c22
                have c22b1 : decide (a0.size + a4.size ≤ 9223372036854775807) = true := decide_eq_true c22
                try have c22b2 : (9223372036854775807 < a0.size + a4.size) = False := eq_false (Nat.not_lt.2 c22)
                clear c22
                by_cases c23 : a0.size + a4.size + a2.size ≤ 9223372036854775807
                · rw [if_pos c23] at H
                  have c23b0 := eq_true c23
                  have c23b1 : decide (a0.size + a4.size + a2.size ≤ 9223372036854775807) = true := decide_eq_true c23
                  try have c23b2 : (9223372036854775807 < a0.size + a4.size + a2.size) = False := eq_false (Nat.not_lt.2 c23)
                  clear c23
                  by_cases c24 : a1.size + 1 ≤ 9223372036854775807
                  · rw [if_pos c24] at H
                    have c24b0 := eq_true c24
                    have c24b1 : decide (a1.size + 1 ≤ 9223372036854775807) = true := decide_eq_true c24
                    try have c24b2 : (9223372036854775807 < a1.size + 1) = False := eq_false (Nat.not_lt.2 c24)
                    clear c24
                    by_cases c25 : a1.size + 1 + a3.size ≤ 9223372036854775807
                    · rw [if_pos c25] at H
                      have c25b0 := eq_true c25
                      have c25b1 : decide (a1.size + 1 + a3.size ≤ 9223372036854775807) = true := decide_eq_true c25
                      try have c25b2 : (9223372036854775807 < a1.size + 1 + a3.size) = False := eq_false (Nat.not_lt.2 c25)
                      clear c25
                      replace H := Option.bind_eq_some_iff.mp H
                      obtain ⟨t217, A260, H⟩ := H
                      replace H : (if a1.size + 2 ≤ 9223372036854775807 then (if a1.size + 2 + a3.size ≤ 9223372036854775807 then ((impl_MtMatch.f kj13 ((a0 ++ a4) ++ a2) ((a1 ++ (⟨#[42, 42]⟩ : ByteArray)) ++ a3)).bind fun t218 => (if (t217 != t218) = true then (some false) else ((impl_MtMatch.f kj13 ((a0 ++ a4) ++ a2) ((a1 ++ (⟨#[42, 63]⟩ : ByteArray)) ++ a3)).bind fun t219 => ((impl_MtMatch.f kj13 ((a0 ++ a4) ++ a2) ((a1 ++ (⟨#[63, 42]⟩ : ByteArray)) ++ a3)).bind fun t220 => (if (t219 != t220) = true then (some false) else (if t217 = true then (some true) else (if t212 = true then (some (!t214)) else (some true)))))))) else (none)) else (none)) = some r := H
                      have A26 := Aside0.mk A260
                      clear A260
                      by_cases c27 : a1.size + 2 ≤ 9223372036854775807
                      · rw [if_pos c27] at H
                        have c27b0 := eq_true c27
                        have c27b1 : decide (a1.size + 2 ≤ 9223372036854775807) = true := decide_eq_true c27
                        try have c27b2 : (9223372036854775807 < a1.size + 2) = False := eq_false (Nat.not_lt.2 c27)
                        clear c27
                        by_cases c28 : a1.size + 2 + a3.size ≤ 9223372036854775807
                        · rw [if_pos c28] at H
                          have c28b0 := eq_true c28
                          have c28b1 : decide (a1.size + 2 + a3.size ≤ 9223372036854775807) = true := decide_eq_true c28
                          try have c28b2 : (9223372036854775807 < a1.size + 2 + a3.size) = False := eq_false (Nat.not_lt.2 c28)
                          clear c28
                          replace H := Option.bind_eq_some_iff.mp H
                          obtain ⟨t218, A290, H⟩ := H
                          replace H : (if (t217 != t218) = true then (some false) else ((impl_MtMatch.f kj13 ((a0 ++ a4) ++ a2) ((a1 ++ (⟨#[42, 63]⟩ : ByteArray)) ++ a3)).bind fun t219 => ((impl_MtMatch.f kj13 ((a0 ++ a4) ++ a2) ((a1 ++ (⟨#[63, 42]⟩ : ByteArray)) ++ a3)).bind fun t220 => (if (t219 != t220) = true then (some false) else (if t217 = true then (some true) else (if t212 = true then (some (!t214)) else (some true))))))) = some r := H
                          have A29 := Aside0.mk A290
                          clear A290
                          by_cases c30 : (t217 != t218) = true
                          · rw [if_pos c30] at H
                            have c30b0 : (t217 != t218) = true := c30
                            (try (have c30b1 : decide (t217 = t218) = false := by simpa using c30))
                            (try (have c30b2 : (t217 == t218) = false := by simpa using c30))
                            (try (have c30b3 : ¬ (t217 = t218) := by simpa using c30))
                            clear c30
                            as_aux_lemma =>
                              obtain rfl := Option.some.inj H
                              go_wp2_with (first | ((with_reducible refine gate_callee (f := 10) rfl ?_); refine goesL_ (some 78) rfl rfl Tryd.func10 (by kernel_rfl) rfl #[.string ((a0 ++ a4) ++ a2), .string ((a1 ++ (⟨#[42]⟩ : ByteArray)) ++ a3)] rfl (by (try simp only [List.map_toArray, List.map_cons, List.map_nil]); first | done | rfl | (simp only [List.length_drop, List.length_take]; rfl)) ?_; (with_reducible refine (impl_MtMatch.calls kj13 ((a0 ++ a4) ++ a2) ((a1 ++ (⟨#[42]⟩ : ByteArray)) ++ a3) t217 _ ?side1 ?side2 A26.out).mono ?_); (case side1 => repeat (first | exact Kd.C_below HRG4.out (by repeat (first | (with_reducible first | exact HB.out | apply below_alloc | apply pw_below_drewN | apply below_drew1) | exact HB.out)) | exact HRG4.out | (with_reducible refine Kd.C_alloc ?_ _) | (with_reducible refine Kd.C_drewN ?_ _) | (with_reducible refine Kd.C_drew ?_))); (case side2 => repeat (first | exact Kd.C_below HRG5.out (by repeat (first | (with_reducible first | exact HB.out | apply below_alloc | apply pw_below_drewN | apply below_drew1) | exact HB.out)) | exact HRG5.out | (with_reducible refine Kd.C_alloc ?_ _) | (with_reducible refine Kd.C_drewN ?_ _) | (with_reducible refine Kd.C_drew ?_))); rintro e w31 ⟨rfl, hb⟩; refine ⟨_, rfl, ?_⟩; have n0_ := Aside0.mk (below_step (by repeat (first | (with_reducible first | exact HB.out | apply below_alloc | apply pw_below_drewN | apply below_drew1) | exact HB.out)) hb); clear HB; have HB := n0_; clear n0_; (try clear hb); (try clear hb2); (try clear hk); (try clear hi)) | ((with_reducible refine gate_callee (f := 10) rfl ?_); refine goesL_ (some 85) rfl rfl Tryd.func10 (by kernel_rfl) rfl #[.string ((a0 ++ a4) ++ a2), .string ((a1 ++ (⟨#[42, 42]⟩ : ByteArray)) ++ a3)] rfl (by (try simp only [List.map_toArray, List.map_cons, List.map_nil]); first | done | rfl | (simp only [List.length_drop, List.length_take]; rfl)) ?_; (with_reducible refine (impl_MtMatch.calls kj13 ((a0 ++ a4) ++ a2) ((a1 ++ (⟨#[42, 42]⟩ : ByteArray)) ++ a3) t218 _ ?side1 ?side2 A29.out).mono ?_); (case side1 => repeat (first | exact Kd.C_below HRG4.out (by repeat (first | (with_reducible first | exact HB.out | apply below_alloc | apply pw_below_drewN | apply below_drew1) | exact HB.out)) | exact HRG4.out | (with_reducible refine Kd.C_alloc ?_ _) | (with_reducible refine Kd.C_drewN ?_ _) | (with_reducible refine Kd.C_drew ?_))); (case side2 => repeat (first | exact Kd.C_below HRG5.out (by repeat (first | (with_reducible first | exact HB.out | apply below_alloc | apply pw_below_drewN | apply below_drew1) | exact HB.out)) | exact HRG5.out | (with_reducible refine Kd.C_alloc ?_ _) | (with_reducible refine Kd.C_drewN ?_ _) | (with_reducible refine Kd.C_drew ?_))); rintro e w32 ⟨rfl, hb⟩; refine ⟨_, rfl, ?_⟩; have n0_ := Aside0.mk (below_step (by repeat (first | (with_reducible first | exact HB.out | apply below_alloc | apply pw_below_drewN | apply below_drew1) | exact HB.out)) hb); clear HB; have HB := n0_; clear n0_; (try clear hb); (try clear hb2); (try clear hk); (try clear hi)))
                              go_ret
                              exact ⟨by first | rfl | (simp [errW_none, errW_some] <;> rfl) | (simp [*, errW_none, errW_some] <;> rfl), by repeat (first | (with_reducible first | exact HB.out | apply below_alloc | apply pw_below_drewN | apply below_drew1) | exact HB.out)⟩
                          · rw [if_neg c30] at H
                            have c30b0 : (t217 != t218) = false := by simpa using c30
                            (try (have c30b1 : decide (t217 = t218) = true := by simpa using c30))
                            (try (have c30b2 : (t217 == t218) = true := by simpa using c30))
                            clear c30
                            replace H := Option.bind_eq_some_iff.mp H
                            obtain ⟨t219, A330, H⟩ := H
                            replace H : ((impl_MtMatch.f kj13 ((a0 ++ a4) ++ a2) ((a1 ++ (⟨#[63, 42]⟩ : ByteArray)) ++ a3)).bind fun t220 => (if (t219 != t220) = true then (some false) else (if t217 = true then (some true) else (if t212 = true then (some (!t214)) else (some true))))) = some r := H
                            have A33 := Aside0.mk A330
                            clear A330
                            replace H := Option.bind_eq_some_iff.mp H
                            obtain ⟨t220, A340, H⟩ := H
                            replace H : (if (t219 != t220) = true then (some false) else (if t217 = true then (some true) else (if t212 = true then (some (!t214)) else (some true)))) = some r := H
                            have A34 := Aside0.mk A340
                            clear A340
                            by_cases c35 : (t219 != t220) = true
                            · rw [if_pos c35] at H
                              have c35b0 : (t219 != t220) = true := c35
                              (try (have c35b1 : decide (t219 = t220) = false := by simpa using c35))
                              (try (have c35b2 : (t219 == t220) = false := by simpa using c35))
                              (try (have c35b3 : ¬ (t219 = t220) := by simpa using c35))
                              clear c35
                              as_aux_lemma =>
                                obtain rfl := Option.some.inj H
                                go_wp2_with (first | ((with_reducible refine gate_callee (f := 10) rfl ?_); refine goesL_ (some 78) rfl rfl Tryd.func10 (by kernel_rfl) rfl #[.string ((a0 ++ a4) ++ a2), .string ((a1 ++ (⟨#[42]⟩ : ByteArray)) ++ a3)] rfl (by (try simp only [List.map_toArray, List.map_cons, List.map_nil]); first | done | rfl | (simp only [List.length_drop, List.length_take]; rfl)) ?_; (with_reducible refine (impl_MtMatch.calls kj13 ((a0 ++ a4) ++ a2) ((a1 ++ (⟨#[42]⟩ : ByteArray)) ++ a3) t217 _ ?side1 ?side2 A26.out).mono ?_); (case side1 => repeat (first | exact Kd.C_below HRG4.out (by repeat (first | (with_reducible first | exact HB.out | apply below_alloc | apply pw_below_drewN | apply below_drew1) | exact HB.out)) | exact HRG4.out | (with_reducible refine Kd.C_alloc ?_ _) | (with_reducible refine Kd.C_drewN ?_ _) | (with_reducible refine Kd.C_drew ?_))); (case side2 => repeat (first | exact Kd.C_below HRG5.out (by repeat (first | (with_reducible first | exact HB.out | apply below_alloc | apply pw_below_drewN | apply below_drew1) | exact HB.out)) | exact HRG5.out | (with_reducible refine Kd.C_alloc ?_ _) | (with_reducible refine Kd.C_drewN ?_ _) | (with_reducible refine Kd.C_drew ?_))); rintro e w36 ⟨rfl, hb⟩; refine ⟨_, rfl, ?_⟩; have n0_ := Aside0.mk (below_step (by repeat (first | (with_reducible first | exact HB.out | apply below_alloc | apply pw_below_drewN | apply below_drew1) | exact HB.out)) hb); clear HB; have HB := n0_; clear n0_; (try clear hb); (try clear hb2); (try clear hk); (try clear hi)) | ((with_reducible refine gate_callee (f := 10) rfl ?_); refine goesL_ (some 85) rfl rfl Tryd.func10 (by kernel_rfl) rfl #[.string ((a0 ++ a4) ++ a2), .string ((a1 ++ (⟨#[42, 42]⟩ : ByteArray)) ++ a3)] rfl (by (try simp only [List.map_toArray, List.map_cons, List.map_nil]); first | done | rfl | (simp only [List.length_drop, List.length_take]; rfl)) ?_; (with_reducible refine (impl_MtMatch.calls kj13 ((a0 ++ a4) ++ a2) ((a1 ++ (⟨#[42, 42]⟩ : ByteArray)) ++ a3) t218 _ ?side1 ?side2 A29.out).mono ?_); (case side1 => repeat (first | exact Kd.C_below HRG4.out (by repeat (first | (with_reducible first | exact HB.out | apply below_alloc | apply pw_below_drewN | apply below_drew1) | exact HB.out)) | exact HRG4.out | (with_reducible refine Kd.C_alloc ?_ _) | (with_reducible refine Kd.C_drewN ?_ _) | (with_reducible refine Kd.C_drew ?_))); (case side2 => repeat (first | exact Kd.C_below HRG5.out (by repeat (first | (with_reducible first | exact HB.out | apply below_alloc | apply pw_below_drewN | apply below_drew1) | exact HB.out)) | exact HRG5.out | (with_reducible refine Kd.C_alloc ?_ _) | (with_reducible refine Kd.C_drewN ?_ _) | (with_reducible refine Kd.C_drew ?_))); rintro e w37 ⟨rfl, hb⟩; refine ⟨_, rfl, ?_⟩; have n0_ := Aside0.mk (below_step (by repeat (first | (with_reducible first | exact HB.out | apply below_alloc | apply pw_below_drewN | apply below_drew1) | exact HB.out)) hb); clear HB; have HB := n0_; clear n0_; (try clear hb); (try clear hb2); (try clear hk); (try clear hi)) | (go_at_call 10; (with_reducible refine (impl_MtMatch.calls kj13 ((a0 ++ a4) ++ a2) ((a1 ++ (⟨#[42, 63]⟩ : ByteArray)) ++ a3) t219 _ ?side1 ?side2 A33.out).mono ?_); (case side1 => repeat (first | exact Kd.C_below HRG4.out (by repeat (first | (with_reducible first | exact HB.out | apply below_alloc | apply pw_below_drewN | apply below_drew1) | exact HB.out)) | exact HRG4.out | (with_reducible refine Kd.C_alloc ?_ _) | (with_reducible refine Kd.C_drewN ?_ _) | (with_reducible refine Kd.C_drew ?_))); (case side2 => repeat (first | exact Kd.C_below HRG5.out (by repeat (first | (with_reducible first | exact HB.out | apply below_alloc | apply pw_below_drewN | apply below_drew1) | exact HB.out)) | exact HRG5.out | (with_reducible refine Kd.C_alloc ?_ _) | (with_reducible refine Kd.C_drewN ?_ _) | (with_reducible refine Kd.C_drew ?_))); rintro e w38 ⟨rfl, hb⟩; have n0_ := Aside0.mk (below_step (by repeat (first | (with_reducible first | exact HB.out | apply below_alloc | apply pw_below_drewN | apply below_drew1) | exact HB.out)) hb); clear HB; have HB := n0_; clear n0_; (try clear hb); (try clear hb2); (try clear hk); (try clear hi)) | (go_at_call 10; (with_reducible refine (impl_MtMatch.calls kj13 ((a0 ++ a4) ++ a2) ((a1 ++ (⟨#[63, 42]⟩ : ByteArray)) ++ a3) t220 _ ?side1 ?side2 A34.out).mono ?_); (case side1 => repeat (first | exact Kd.C_below HRG4.out (by repeat (first | (with_reducible first | exact HB.out | apply below_alloc | apply pw_below_drewN | apply below_drew1) | exact HB.out)) | exact HRG4.out | (with_reducible refine Kd.C_alloc ?_ _) | (with_reducible refine Kd.C_drewN ?_ _) | (with_reducible refine Kd.C_drew ?_))); (case side2 => repeat (first | exact Kd.C_below HRG5.out (by repeat (first | (with_reducible first | exact HB.out | apply below_alloc | apply pw_below_drewN | apply below_drew1) | exact HB.out)) | exact HRG5.out | (with_reducible refine Kd.C_alloc ?_ _) | (with_reducible refine Kd.C_drewN ?_ _) | (with_reducible refine Kd.C_drew ?_))); rintro e w39 ⟨rfl, hb⟩; have n0_ := Aside0.mk (below_step (by repeat (first | (with_reducible first | exact HB.out | apply below_alloc | apply pw_below_drewN | apply below_drew1) | exact HB.out)) hb); clear HB; have HB := n0_; clear n0_; (try clear hb); (try clear hb2); (try clear hk); (try clear hi)))
                                go_ret
                                exact ⟨by first | rfl | (simp [errW_none, errW_some] <;> rfl) | (simp [*, errW_none, errW_some] <;> rfl), by repeat (first | (with_reducible first | exact HB.out | apply below_alloc | apply pw_below_drewN | apply below_drew1) | exact HB.out)⟩
                            · rw [if_neg c35] at H
                              have c35b0 : (t219 != t220) = false := by simpa using c35
                              (try (have c35b1 : decide (t219 = t220) = true := by simpa using c35))
                              (try (have c35b2 : (t219 == t220) = true := by simpa using c35))
                              clear c35
                              by_cases c40 : t217 = true
                              · subst c40
                                have H1 : (some true) = some r := by rw [if_pos rfl] at H; exact H
                                clear H
                                have H := H1
                                clear H1
                                as_aux_lemma =>
                                  obtain rfl := Option.some.inj H
                                  go_wp2_with (first | ((with_reducible refine gate_callee (f := 10) rfl ?_); refine goesL_ (some 78) rfl rfl Tryd.func10 (by kernel_rfl) rfl #[.string ((a0 ++ a4) ++ a2), .string ((a1 ++ (⟨#[42]⟩ : ByteArray)) ++ a3)] rfl (by (try simp only [List.map_toArray, List.map_cons, List.map_nil]); first | done | rfl | (simp only [List.length_drop, List.length_take]; rfl)) ?_; (with_reducible refine (impl_MtMatch.calls kj13 ((a0 ++ a4) ++ a2) ((a1 ++ (⟨#[42]⟩ : ByteArray)) ++ a3) true _ ?side1 ?side2 A26.out).mono ?_); (case side1 => repeat (first | exact Kd.C_below HRG4.out (by repeat (first | (with_reducible first | exact HB.out | apply below_alloc | apply pw_below_drewN | apply below_drew1) | exact HB.out)) | exact HRG4.out | (with_reducible refine Kd.C_alloc ?_ _) | (with_reducible refine Kd.C_drewN ?_ _) | (with_reducible refine Kd.C_drew ?_))); (case side2 => repeat (first | exact Kd.C_below HRG5.out (by repeat (first | (with_reducible first | exact HB.out | apply below_alloc | apply pw_below_drewN | apply below_drew1) | exact HB.out)) | exact HRG5.out | (with_reducible refine Kd.C_alloc ?_ _) | (with_reducible refine Kd.C_drewN ?_ _) | (with_reducible refine Kd.C_drew ?_))); rintro e w41 ⟨rfl, hb⟩; refine ⟨_, rfl, ?_⟩; have n0_ := Aside0.mk (below_step (by repeat (first | (with_reducible first | exact HB.out | apply below_alloc | apply pw_below_drewN | apply below_drew1) | exact HB.out)) hb); clear HB; have HB := n0_; clear n0_; (try clear hb); (try clear hb2); (try clear hk); (try clear hi)) | ((with_reducible refine gate_callee (f := 10) rfl ?_); refine goesL_ (some 85) rfl rfl Tryd.func10 (by kernel_rfl) rfl #[.string ((a0 ++ a4) ++ a2), .string ((a1 ++ (⟨#[42, 42]⟩ : ByteArray)) ++ a3)] rfl (by (try simp only [List.map_toArray, List.map_cons, List.map_nil]); first | done | rfl | (simp only [List.length_drop, List.length_take]; rfl)) ?_; (with_reducible refine (impl_MtMatch.calls kj13 ((a0 ++ a4) ++ a2) ((a1 ++ (⟨#[42, 42]⟩ : ByteArray)) ++ a3) t218 _ ?side1 ?side2 A29.out).mono ?_); (case side1 => repeat (first | exact Kd.C_below HRG4.out (by repeat (first | (with_reducible first | exact HB.out | apply below_alloc | apply pw_below_drewN | apply below_drew1) | exact HB.out)) | exact HRG4.out | (with_reducible refine Kd.C_alloc ?_ _) | (with_reducible refine Kd.C_drewN ?_ _) | (with_reducible refine Kd.C_drew ?_))); (case side2 => repeat (first | exact Kd.C_below HRG5.out (by repeat (first | (with_reducible first | exact HB.out | apply below_alloc | apply pw_below_drewN | apply below_drew1) | exact HB.out)) | exact HRG5.out | (with_reducible refine Kd.C_alloc ?_ _) | (with_reducible refine Kd.C_drewN ?_ _) | (with_reducible refine Kd.C_drew ?_))); rintro e w42 ⟨rfl, hb⟩; refine ⟨_, rfl, ?_⟩; have n0_ := Aside0.mk (below_step (by repeat (first | (with_reducible first | exact HB.out | apply below_alloc | apply pw_below_drewN | apply below_drew1) | exact HB.out)) hb); clear HB; have HB := n0_; clear n0_; (try clear hb); (try clear hb2); (try clear hk); (try clear hi)) | (go_at_call 10; (with_reducible refine (impl_MtMatch.calls kj13 ((a0 ++ a4) ++ a2) ((a1 ++ (⟨#[42, 63]⟩ : ByteArray)) ++ a3) t219 _ ?side1 ?side2 A33.out).mono ?_); (case side1 => repeat (first | exact Kd.C_below HRG4.out (by repeat (first | (with_reducible first | exact HB.out | apply below_alloc | apply pw_below_drewN | apply below_drew1) | exact HB.out)) | exact HRG4.out | (with_reducible refine Kd.C_alloc ?_ _) | (with_reducible refine Kd.C_drewN ?_ _) | (with_reducible refine Kd.C_drew ?_))); (case side2 => repeat (first | exact Kd.C_below HRG5.out (by repeat (first | (with_reducible first | exact HB.out | apply below_alloc | apply pw_below_drewN | apply below_drew1) | exact HB.out)) | exact HRG5.out | (with_reducible refine Kd.C_alloc ?_ _) | (with_reducible refine Kd.C_drewN ?_ _) | (with_reducible refine Kd.C_drew ?_))); rintro e w43 ⟨rfl, hb⟩; have n0_ := Aside0.mk (below_step (by repeat (first | (with_reducible first | exact HB.out | apply below_alloc | apply pw_below_drewN | apply below_drew1) | exact HB.out)) hb); clear HB; have HB := n0_; clear n0_; (try clear hb); (try clear hb2); (try clear hk); (try clear hi)) | (go_at_call 10; (with_reducible refine (impl_MtMatch.calls kj13 ((a0 ++ a4) ++ a2) ((a1 ++ (⟨#[63, 42]⟩ : ByteArray)) ++ a3) t220 _ ?side1 ?side2 A34.out).mono ?_); (case side1 => repeat (first | exact Kd.C_below HRG4.out (by repeat (first | (with_reducible first | exact HB.out | apply below_alloc | apply pw_below_drewN | apply below_drew1) | exact HB.out)) | exact HRG4.out | (with_reducible refine Kd.C_alloc ?_ _) | (with_reducible refine Kd.C_drewN ?_ _) | (with_reducible refine Kd.C_drew ?_))); (case side2 => repeat (first | exact Kd.C_below HRG5.out (by repeat (first | (with_reducible first | exact HB.out | apply below_alloc | apply pw_below_drewN | apply below_drew1) | exact HB.out)) | exact HRG5.out | (with_reducible refine Kd.C_alloc ?_ _) | (with_reducible refine Kd.C_drewN ?_ _) | (with_reducible refine Kd.C_drew ?_))); rintro e w44 ⟨rfl, hb⟩; have n0_ := Aside0.mk (below_step (by repeat (first | (with_reducible first | exact HB.out | apply below_alloc | apply pw_below_drewN | apply below_drew1) | exact HB.out)) hb); clear HB; have HB := n0_; clear n0_; (try clear hb); (try clear hb2); (try clear hk); (try clear hi)))
                                  go_ret
                                  exact ⟨by first | rfl | (simp [errW_none, errW_some] <;> rfl) | (simp [*, errW_none, errW_some] <;> rfl), by repeat (first | (with_reducible first | exact HB.out | apply below_alloc | apply pw_below_drewN | apply below_drew1) | exact HB.out)⟩
                              · replace c40 := Bool.eq_false_iff.mpr c40
                                subst c40
                                have H1 : (if t212 = true then (some (!t214)) else (some true)) = some r := by rw [if_neg (show ¬ (false = true) by decide)] at H; exact H
                                clear H
                                have H := H1
                                clear H1
                                by_cases c45 : t212 = true
                                · subst c45
                                  have H1 : (some (!t214)) = some r := by rw [if_pos rfl] at H; exact H
                                  clear H
                                  have H := H1
                                  clear H1
                                  as_aux_lemma =>
                                    obtain rfl := Option.some.inj H
                                    go_wp2_with (first | ((with_reducible refine gate_callee (f := 10) rfl ?_); refine goesL_ (some 78) rfl rfl Tryd.func10 (by kernel_rfl) rfl #[.string ((a0 ++ a4) ++ a2), .string ((a1 ++ (⟨#[42]⟩ : ByteArray)) ++ a3)] rfl (by (try simp only [List.map_toArray, List.map_cons, List.map_nil]); first | done | rfl | (simp only [List.length_drop, List.length_take]; rfl)) ?_; (with_reducible refine (impl_MtMatch.calls kj13 ((a0 ++ a4) ++ a2) ((a1 ++ (⟨#[42]⟩ : ByteArray)) ++ a3) false _ ?side1 ?side2 A26.out).mono ?_); (case side1 => repeat (first | exact Kd.C_below HRG4.out (by repeat (first | (with_reducible first | exact HB.out | apply below_alloc | apply pw_below_drewN | apply below_drew1) | exact HB.out)) | exact HRG4.out | (with_reducible refine Kd.C_alloc ?_ _) | (with_reducible refine Kd.C_drewN ?_ _) | (with_reducible refine Kd.C_drew ?_))); (case side2 => repeat (first | exact Kd.C_below HRG5.out (by repeat (first | (with_reducible first | exact HB.out | apply below_alloc | apply pw_below_drewN | apply below_drew1) | exact HB.out)) | exact HRG5.out | (with_reducible refine Kd.C_alloc ?_ _) | (with_reducible refine Kd.C_drewN ?_ _) | (with_reducible refine Kd.C_drew ?_))); rintro e w46 ⟨rfl, hb⟩; refine ⟨_, rfl, ?_⟩; have n0_ := Aside0.mk (below_step (by repeat (first | (with_reducible first | exact HB.out | apply below_alloc | apply pw_below_drewN | apply below_drew1) | exact HB.out)) hb); clear HB; have HB := n0_; clear n0_; (try clear hb); (try clear hb2); (try clear hk); (try clear hi)) | ((with_reducible refine gate_callee (f := 10) rfl ?_); refine goesL_ (some 85) rfl rfl Tryd.func10 (by kernel_rfl) rfl #[.string ((a0 ++ a4) ++ a2), .string ((a1 ++ (⟨#[42, 42]⟩ : ByteArray)) ++ a3)] rfl (by (try simp only [List.map_toArray, List.map_cons, List.map_nil]); first | done | rfl | (simp only [List.length_drop, List.length_take]; rfl)) ?_; (with_reducible refine (impl_MtMatch.calls kj13 ((a0 ++ a4) ++ a2) ((a1 ++ (⟨#[42, 42]⟩ : ByteArray)) ++ a3) t218 _ ?side1 ?side2 A29.out).mono ?_); (case side1 => repeat (first | exact Kd.C_below HRG4.out (by repeat (first | (with_reducible first | exact HB.out | apply below_alloc | apply pw_below_drewN | apply below_drew1) | exact HB.out)) | exact HRG4.out | (with_reducible refine Kd.C_alloc ?_ _) | (with_reducible refine Kd.C_drewN ?_ _) | (with_reducible refine Kd.C_drew ?_))); (case side2 => repeat (first | exact Kd.C_below HRG5.out (by repeat (first | (with_reducible first | exact HB.out | apply below_alloc | apply pw_below_drewN | apply below_drew1) | exact HB.out)) | exact HRG5.out | (with_reducible refine Kd.C_alloc ?_ _) | (with_reducible refine Kd.C_drewN ?_ _) | (with_reducible refine Kd.C_drew ?_))); rintro e w47 ⟨rfl, hb⟩; refine ⟨_, rfl, ?_⟩; have n0_ := Aside0.mk (below_step (by repeat (first | (with_reducible first | exact HB.out | apply below_alloc | apply pw_below_drewN | apply below_drew1) | exact HB.out)) hb); clear HB; have HB := n0_; clear n0_; (try clear hb); (try clear hb2); (try clear hk); (try clear hi)) | (go_at_call 10; (with_reducible refine (impl_MtMatch.calls kj13 ((a0 ++ a4) ++ a2) ((a1 ++ (⟨#[42, 63]⟩ : ByteArray)) ++ a3) t219 _ ?side1 ?side2 A33.out).mono ?_); (case side1 => repeat (first | exact Kd.C_below HRG4.out (by repeat (first | (with_reducible first | exact HB.out | apply below_alloc | apply pw_below_drewN | apply below_drew1) | exact HB.out)) | exact HRG4.out | (with_reducible refine Kd.C_alloc ?_ _) | (with_reducible refine Kd.C_drewN ?_ _) | (with_reducible refine Kd.C_drew ?_))); (case side2 => repeat (first | exact Kd.C_below HRG5.out (by repeat (first | (with_reducible first | exact HB.out | apply below_alloc | apply pw_below_drewN | apply below_drew1) | exact HB.out)) | exact HRG5.out | (with_reducible refine Kd.C_alloc ?_ _) | (with_reducible refine Kd.C_drewN ?_ _) | (with_reducible refine Kd.C_drew ?_))); rintro e w48 ⟨rfl, hb⟩; have n0_ := Aside0.mk (below_step (by repeat (first | (with_reducible first | exact HB.out | apply below_alloc | apply pw_below_drewN | apply below_drew1) | exact HB.out)) hb); clear HB; have HB := n0_; clear n0_; (try clear hb); (try clear hb2); (try clear hk); (try clear hi)) | (go_at_call 10; (with_reducible refine (impl_MtMatch.calls kj13 ((a0 ++ a4) ++ a2) ((a1 ++ (⟨#[63, 42]⟩ : ByteArray)) ++ a3) t220 _ ?side1 ?side2 A34.out).mono ?_); (case side1 => repeat (first | exact Kd.C_below HRG4.out (by repeat (first | (with_reducible first | exact HB.out | apply below_alloc | apply pw_below_drewN | apply below_drew1) | exact HB.out)) | exact HRG4.out | (with_reducible refine Kd.C_alloc ?_ _) | (with_reducible refine Kd.C_drewN ?_ _) | (with_reducible refine Kd.C_drew ?_))); (case side2 => repeat (first | exact Kd.C_below HRG5.out (by repeat (first | (with_reducible first | exact HB.out | apply below_alloc | apply pw_below_drewN | apply below_drew1) | exact HB.out)) | exact HRG5.out | (with_reducible refine Kd.C_alloc ?_ _) | (with_reducible refine Kd.C_drewN ?_ _) | (with_reducible refine Kd.C_drew ?_))); rintro e w49 ⟨rfl, hb⟩; have n0_ := Aside0.mk (below_step (by repeat (first | (with_reducible first | exact HB.out | apply below_alloc | apply pw_below_drewN | apply below_drew1) | exact HB.out)) hb); clear HB; have HB := n0_; clear n0_; (try clear hb); (try clear hb2); (try clear hk); (try clear hi)))
                                    go_ret
                                    exact ⟨by first | rfl | (simp [errW_none, errW_some] <;> rfl) | (simp [*, errW_none, errW_some] <;> rfl), by repeat (first | (with_reducible first | exact HB.out | apply below_alloc | apply pw_below_drewN | apply below_drew1) | exact HB.out)⟩
                                · replace c45 := Bool.eq_false_iff.mpr c45
                                  subst c45
                                  have H1 : (some true) = some r := by rw [if_neg (show ¬ (false = true) by decide)] at H; exact H
                                  clear H
                                  have H := H1
                                  clear H1
                                  as_aux_lemma =>
                                    obtain rfl := Option.some.inj H
                                    go_wp2_with (first | ((with_reducible refine gate_callee (f := 10) rfl ?_); refine goesL_ (some 78) rfl rfl Tryd.func10 (by kernel_rfl) rfl #[.string ((a0 ++ a4) ++ a2), .string ((a1 ++ (⟨#[42]⟩ : ByteArray)) ++ a3)] rfl (by (try simp only [List.map_toArray, List.map_cons, List.map_nil]); first | done | rfl | (simp only [List.length_drop, List.length_take]; rfl)) ?_; (with_reducible refine (impl_MtMatch.calls kj13 ((a0 ++ a4) ++ a2) ((a1 ++ (⟨#[42]⟩ : ByteArray)) ++ a3) false _ ?side1 ?side2 A26.out).mono ?_); (case side1 => repeat (first | exact Kd.C_below HRG4.out (by repeat (first | (with_reducible first | exact HB.out | apply below_alloc | apply pw_below_drewN | apply below_drew1) | exact HB.out)) | exact HRG4.out | (with_reducible refine Kd.C_alloc ?_ _) | (with_reducible refine Kd.C_drewN ?_ _) | (with_reducible refine Kd.C_drew ?_))); (case side2 => repeat (first | exact Kd.C_below HRG5.out (by repeat (first | (with_reducible first | exact HB.out | apply below_alloc | apply pw_below_drewN | apply below_drew1) | exact HB.out)) | exact HRG5.out | (with_reducible refine Kd.C_alloc ?_ _) | (with_reducible refine Kd.C_drewN ?_ _) | (with_reducible refine Kd.C_drew ?_))); rintro e w50 ⟨rfl, hb⟩; refine ⟨_, rfl, ?_⟩; have n0_ := Aside0.mk (below_step (by repeat (first | (with_reducible first | exact HB.out | apply below_alloc | apply pw_below_drewN | apply below_drew1) | exact HB.out)) hb); clear HB; have HB := n0_; clear n0_; (try clear hb); (try clear hb2); (try clear hk); (try clear hi)) | ((with_reducible refine gate_callee (f := 10) rfl ?_); refine goesL_ (some 85) rfl rfl Tryd.func10 (by kernel_rfl) rfl #[.string ((a0 ++ a4) ++ a2), .string ((a1 ++ (⟨#[42, 42]⟩ : ByteArray)) ++ a3)] rfl (by (try simp only [List.map_toArray, List.map_cons, List.map_nil]); first | done | rfl | (simp only [List.length_drop, List.length_take]; rfl)) ?_; (with_reducible refine (impl_MtMatch.calls kj13 ((a0 ++ a4) ++ a2) ((a1 ++ (⟨#[42, 42]⟩ : ByteArray)) ++ a3) t218 _ ?side1 ?side2 A29.out).mono ?_); (case side1 => repeat (first | exact Kd.C_below HRG4.out (by repeat (first | (with_reducible first | exact HB.out | apply below_alloc | apply pw_below_drewN | apply below_drew1) | exact HB.out)) | exact HRG4.out | (with_reducible refine Kd.C_alloc ?_ _) | (with_reducible refine Kd.C_drewN ?_ _) | (with_reducible refine Kd.C_drew ?_))); (case side2 => repeat (first | exact Kd.C_below HRG5.out (by repeat (first | (with_reducible first | exact HB.out | apply below_alloc | apply pw_below_drewN | apply below_drew1) | exact HB.out)) | exact HRG5.out | (with_reducible refine Kd.C_alloc ?_ _) | (with_reducible refine Kd.C_drewN ?_ _) | (with_reducible refine Kd.C_drew ?_))); rintro e w51 ⟨rfl, hb⟩; refine ⟨_, rfl, ?_⟩; have n0_ := Aside0.mk (below_step (by repeat (first | (with_reducible first | exact HB.out | apply below_alloc | apply pw_below_drewN | apply below_drew1) | exact HB.out)) hb); clear HB; have HB := n0_; clear n0_; (try clear hb); (try clear hb2); (try clear hk); (try clear hi)) | (go_at_call 10; (with_reducible refine (impl_MtMatch.calls kj13 ((a0 ++ a4) ++ a2) ((a1 ++ (⟨#[42, 63]⟩ : ByteArray)) ++ a3) t219 _ ?side1 ?side2 A33.out).mono ?_); (case side1 => repeat (first | exact Kd.C_below HRG4.out (by repeat (first | (with_reducible first | exact HB.out | apply below_alloc | apply pw_below_drewN | apply below_drew1) | exact HB.out)) | exact HRG4.out | (with_reducible refine Kd.C_alloc ?_ _) | (with_reducible refine Kd.C_drewN ?_ _) | (with_reducible refine Kd.C_drew ?_))); (case side2 => repeat (first | exact Kd.C_below HRG5.out (by repeat (first | (with_reducible first | exact HB.out | apply below_alloc | apply pw_below_drewN | apply below_drew1) | exact HB.out)) | exact HRG5.out | (with_reducible refine Kd.C_alloc ?_ _) | (with_reducible refine Kd.C_drewN ?_ _) | (with_reducible refine Kd.C_drew ?_))); rintro e w52 ⟨rfl, hb⟩; have n0_ := Aside0.mk (below_step (by repeat (first | (with_reducible first | exact HB.out | apply below_alloc | apply pw_below_drewN | apply below_drew1) | exact HB.out)) hb); clear HB; have HB := n0_; clear n0_; (try clear hb); (try clear hb2); (try clear hk); (try clear hi)) | (go_at_call 10; (with_reducible refine (impl_MtMatch.calls kj13 ((a0 ++ a4) ++ a2) ((a1 ++ (⟨#[63, 42]⟩ : ByteArray)) ++ a3) t220 _ ?side1 ?side2 A34.out).mono ?_); (case side1 => repeat (first | exact Kd.C_below HRG4.out (by repeat (first | (with_reducible first | exact HB.out | apply below_alloc | apply pw_below_drewN | apply below_drew1) | exact HB.out)) | exact HRG4.out | (with_reducible refine Kd.C_alloc ?_ _) | (with_reducible refine Kd.C_drewN ?_ _) | (with_reducible refine Kd.C_drew ?_))); (case side2 => repeat (first | exact Kd.C_below HRG5.out (by repeat (first | (with_reducible first | exact HB.out | apply below_alloc | apply pw_below_drewN | apply below_drew1) | exact HB.out)) | exact HRG5.out | (with_reducible refine Kd.C_alloc ?_ _) | (with_reducible refine Kd.C_drewN ?_ _) | (with_reducible refine Kd.C_drew ?_))); rintro e w53 ⟨rfl, hb⟩; have n0_ := Aside0.mk (below_step (by repeat (first | (with_reducible first | exact HB.out | apply below_alloc | apply pw_below_drewN | apply below_drew1) | exact HB.out)) hb); clear HB; have HB := n0_; clear n0_; (try clear hb); (try clear hb2); (try clear hk); (try clear hi)))
                                    go_ret
                                    exact ⟨by first | rfl | (simp [errW_none, errW_some] <;> rfl) | (simp [*, errW_none, errW_some] <;> rfl), by repeat (first | (with_reducible first | exact HB.out | apply below_alloc | apply pw_below_drewN | apply below_drew1) | exact HB.out)⟩
                        · rw [if_neg c28] at H
                          exact absurd H (by simp)
                      · rw [if_neg c27] at H
                        exact absurd H (by simp)
                    · rw [if_neg c25] at H
                      exact absurd H (by simp)
                  · rw [if_neg c24] at H
                    exact absurd H (by simp)
                · rw [if_neg c23] at H
                  exact absurd H (by simp)
              · rw [if_neg c22] at H
                exact absurd H (by simp)

/-- THE ONE PURE STATEMENT of laws_FnMtDoubled: yours. -/
def laws_FnMtDoubled.Pure : Prop := ∀ (a0 : ByteArray) (a1 : ByteArray) (a2 : ByteArray) (a3 : ByteArray) (a4 : ByteArray), a0.size ≤ 140737488351232 → a1.size ≤ 140737488351232 → a2.size ≤ 140737488351232 → a3.size ≤ 140737488351232 → a4.size ≤ 140737488351232 → ∃ k, laws_FnMtDoubled.f k a0 a1 a2 a3 a4 = some true
theorem laws_FnMtDoubled.walk (P : laws_FnMtDoubled.Pure) (a0 : ByteArray) (a1 : ByteArray) (a2 : ByteArray) (a3 : ByteArray) (a4 : ByteArray) (w : World) (w0 : a0.size ≤ 140737488351232) (w1 : a1.size ≤ 140737488351232) (w2 : a2.size ≤ 140737488351232) (w3 : a3.size ≤ 140737488351232) (w4 : a4.size ≤ 140737488351232) (hT4 : Kd.C (Kd.int .u8) w (some ⟨4, 0, none⟩) tabG4.length tabG4) (hT5 : Kd.C k159 w (some ⟨5, 0, none⟩) tabG5.length tabG5) :
    Calls Tryd.prog 4 #[.string a0, .string a1, .string a2, .string a3, .string a4] w fun e w' => e = .returned (.bool true) ∧ Below w.heap.size w w' := by
  obtain ⟨k, h⟩ := P a0 a1 a2 a3 a4 w0 w1 w2 w3 w4
  refine (laws_FnMtDoubled.calls k a0 a1 a2 a3 a4 true w hT4 hT5 h).mono ?_
  rintro e w' ⟨rfl, hd⟩
  exact ⟨rfl, hd⟩

end Go.Proofs.YtfpbbnllaogclaaDoor.PA
