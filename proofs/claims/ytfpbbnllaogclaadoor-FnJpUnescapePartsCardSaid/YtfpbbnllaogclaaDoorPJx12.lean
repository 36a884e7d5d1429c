-- Written by a program of this session out of the translation (a changed copy of the kit's print); Lean checks it.
import Derived.Test.YtfpbbnllaogclaaDoorPJx0
import Derived.Test.YtfpbbnllaogclaaDoorPJx4
import Derived.Test.YtfpbbnllaogclaaDoorPJx5
import Derived.Test.YtfpbbnllaogclaaDoorPJx6
import Derived.Test.YtfpbbnllaogclaaDoorPJx10
import Derived.Test.YtfpbbnllaogclaaDoorPJx11
namespace Go.Proofs.YtfpbbnllaogclaaDoor.PJ
open Go.RowKit Go.Proofs.YtfpbbnllaogclaaDoorW.PrintWords Go.Proofs.YtfpbbnllaogclaaDoorW.PrintLast Go.Proofs.YtfpbbnllaogclaaDoorW.PrintMore
attribute [local go_sem] max2_int min2_int max_two min_two max_three min_three max_four min_four   -- for this text's walks alone
set_option linter.unusedVariables false
set_option linter.unusedSimpArgs false

/-! ### spec_Unquote: function 46 -/
def spec_Unquote.l0 : Nat → List Int → ByteArray → Int → Option (ByteArray)
  | 0, _, _, _ => none
  | k + 1, x3, x4, x5 => if x5 < (x4.size : Int) then (if 0 ≤ x5 then (if (bt x4 x5) = 92 then ((spec_unit.f k x4 x5).bind fun bt150 => (if bt150.2 = true then ((spec_unit.f k x4 (wrap64 (x5 + 6))).bind fun bt156 => (if bt156.2 = true then ((spec_high.f bt150.1).bind fun t158 => (if t158 = true then ((spec_low.f bt156.1).bind fun t159 => (if t159 = true then ((spec_appendUTF8.f k x3 (wrap64 ((wrap64 (65536 + (wrap64 ((wrap64 (bt150.1 - 55296)) * 1024)))) + (wrap64 (bt156.1 - 56320))))).bind fun t160 => (spec_Unquote.l0 k t160 x4 (wrap64 ((wrap64 (x5 + 6)) + 6)))) else ((spec_appendUTF8.f k x3 bt150.1).bind fun t163 => (spec_Unquote.l0 k t163 x4 (wrap64 (x5 + 6)))))) else ((spec_appendUTF8.f k x3 bt150.1).bind fun t166 => (spec_Unquote.l0 k t166 x4 (wrap64 (x5 + 6)))))) else ((spec_appendUTF8.f k x3 bt150.1).bind fun t169 => (spec_Unquote.l0 k t169 x4 (wrap64 (x5 + 6)))))) else (if 0 ≤ (wrap64 (x5 + 1)) then (if (wrap64 (x5 + 1)) < (x4.size : Int) then ((spec_short.f (bt x4 (wrap64 (x5 + 1)))).bind fun t152 => (if x3.length < 140737488355328 then (spec_Unquote.l0 k (x3 ++ [t152]) x4 (wrap64 (x5 + 2))) else (none))) else (none)) else (none)))) else (if x3.length < 140737488355328 then (spec_Unquote.l0 k (x3 ++ [bt x4 x5]) x4 (wrap64 (x5 + 1))) else (none))) else (none)) else (some (strOfNums x3))
def spec_Unquote.f (k : Nat) (a0 : ByteArray) : Option (ByteArray) := if 1 ≤ (wrap64 ((a0.size : Int) - 1)) then (if (wrap64 ((a0.size : Int) - 1)) ≤ (a0.size : Int) then (spec_Unquote.l0 k ([] : List Int) (a0.extract 1 ((wrap64 ((a0.size : Int) - 1)) : Int).toNat) 0) else (none)) else (none)
theorem spec_Unquote.mono_l : ∀ k, (∀ y0 y1 y2, LeO (spec_Unquote.l0 k y0 y1 y2) (spec_Unquote.l0 (k + 1) y0 y1 y2))
  | 0 => fun _ _ _ r h => by simp [spec_Unquote.l0] at h
  | k + 1 => by
    have ih0 := spec_Unquote.mono_l k
    · intro y0 y1 y2
      unfold spec_Unquote.l0
      repeat' first
      | (with_reducible exact ih0 _ _ _)
      | (with_reducible exact spec_appendUTF8.mono _ _ _)
      | (with_reducible exact spec_unit.mono _ _ _)
      | (with_reducible exact LeO.refl _)
      | (with_reducible exact LeO.none _)
      | (with_reducible refine LeO.ite ?_ ?_)
      | (with_reducible refine LeO.bind ?_ (fun _ => ?_))
      | exact ih0 _ _ _
      | exact spec_appendUTF8.mono _ _ _
      | exact spec_unit.mono _ _ _
      | exact LeO.none _
      | refine LeO.ite ?_ ?_
      | refine LeO.bind ?_ (fun _ => ?_)
theorem spec_Unquote.mono : ∀ a0 k, LeO (spec_Unquote.f k a0) (spec_Unquote.f (k + 1) a0) := by
  intro a0 k
  have ih0 := spec_Unquote.mono_l k
  unfold spec_Unquote.f
  repeat' first
      | (with_reducible exact ih0 _ _ _)
      | (with_reducible exact spec_appendUTF8.mono _ _ _)
      | (with_reducible exact spec_unit.mono _ _ _)
      | (with_reducible exact LeO.refl _)
      | (with_reducible exact LeO.none _)
      | (with_reducible refine LeO.ite ?_ ?_)
      | (with_reducible refine LeO.bind ?_ (fun _ => ?_))
      | exact ih0 _ _ _
      | exact spec_appendUTF8.mono _ _ _
      | exact spec_unit.mono _ _ _
      | exact LeO.none _
      | refine LeO.ite ?_ ?_
      | refine LeO.bind ?_ (fun _ => ?_)
set_option maxHeartbeats 8000000 in
set_option maxRecDepth 100000 in
theorem spec_Unquote.calls (k : Nat) (a0 : ByteArray) (r : ByteArray) (w : World) (h : spec_Unquote.f k a0 = some r) :
    Calls Tryd.prog 46 #[.string a0] w fun e w' => e = .returned (.string r) ∧ Below w.heap.size w w' := by
  have HB := Aside0.mk (Below.refl w.heap.size w)
  have H : (if 1 ≤ (wrap64 ((a0.size : Int) - 1)) then (if (wrap64 ((a0.size : Int) - 1)) ≤ (a0.size : Int) then (spec_Unquote.l0 k ([] : List Int) (a0.extract 1 ((wrap64 ((a0.size : Int) - 1)) : Int).toNat) 0) else (none)) else (none)) = some r := h
  clear h
  by_cases c2 : 1 ≤ (wrap64 ((a0.size : Int) - 1))
  · rw [if_pos c2] at H
    have c2b0 := eq_true c2
    have c2b1 : decide (1 ≤ (wrap64 ((a0.size : Int) - 1))) = true := decide_eq_true c2
    clear c2
    by_cases c3 : (wrap64 ((a0.size : Int) - 1)) ≤ (a0.size : Int)
    · rw [if_pos c3] at H
      have c3b0 := eq_true c3
      have c3b1 : decide ((wrap64 ((a0.size : Int) - 1)) ≤ (a0.size : Int)) = true := decide_eq_true c3
      clear c3
      obtain ⟨js4, hjs4⟩ : ∃ z_ : ByteArray, (a0.extract 1 ((wrap64 ((a0.size : Int) - 1)) : Int).toNat) = z_ := ⟨_, rfl⟩
      replace H : (spec_Unquote.l0 k ([] : List Int) js4 0) = some r := by first | (rw [hjs4] at H; exact H) | (simp only [hjs4] at H ⊢; exact H)
      have H' := Aside0.mk H
      clear H
      try have hcs5 := fun W_ : World => run_slice_string (P := Tryd.prog) W_ 9 a0 .i64 .i64 1 (wrap64 ((a0.size : Int) - 1)) Tryd.underlying9 (by omega) (of_decide_eq_true (by first | (with_reducible assumption) | assumption)) (of_decide_eq_true (by first | (with_reducible assumption) | assumption))
      (try simp only [hjs4] at hcs5)
      go_enter Tryd.func46, Tryd.ntmps46
      go_wp2
      try simp only [Act.put, List.setIfInBounds_toArray, List.set_cons_succ, List.set_cons_zero]
      go_loopg [3, 5] k (fun kq v3 v5 w' => ∃ (x3_1 : List Int) (x5_1 : Int), v5 = .int .i64 x5_1 ∧ Aside0 (spec_Unquote.l0 kq x3_1 js4 x5_1 = some r) ∧ Aside0 (kq ≤ k) ∧ Aside0 (Kd.R (Kd.int .u8) 5 w' w.heap.size (fun _ => True) v3 x3_1) ∧ Aside0 (Below w.heap.size w w'))
      case atStart => exact ⟨(([] : List Int)), (0), (by first | rfl | (simp; done) | (simp [*]; done)), H', ⟨Nat.le_refl _⟩, ⟨by first | exact Kd.R_nil _ _ _ _ _ | exact Kd.N_nil _ _ _ _ _ | exact Kd.V_nil _ _ _ _ _ | exact Kd.Q_nil _ _ _ _ _ | exact Kd.S_nil _ _ _ _ _⟩, ⟨by repeat (first | (with_reducible first | exact HB.out | apply below_alloc | apply pw_below_drewN | apply below_drew1) | exact HB.out)⟩⟩
      case round =>
        clear H'
        try clear c2
        try clear c2b0
        try clear c2b1
        try clear p2
        try clear c3
        try clear c3b0
        try clear c3b1
        try clear c4
        obtain ⟨x3_1, x5_1, rfl, HA, HK1, HO_3, HB⟩ := hrel
        cases gk with
        | zero => exact absurd HA.out (by simp [spec_Unquote.l0])
        | succ k1 =>
          have H := HA.out
          clear HA
          simp only [spec_Unquote.l0] at H
          by_cases c6 : x5_1 < (js4.size : Int)
          · rw [if_pos c6] at H
            have c6b0 : decide (x5_1 < (js4.size : Int)) = true := decide_eq_true c6
            clear c6
            by_cases c7 : 0 ≤ x5_1
            · rw [if_pos c7] at H
              have c7b0 : decide (0 ≤ x5_1) = true := decide_eq_true c7
              clear c7
              by_cases c9 : (bt js4 x5_1) = 92
              · rw [if_pos c9] at H
                have c9b0 : ((bt js4 x5_1) == 92) = true := beq_iff_eq.mpr c9
                have c9b1 : ((bt js4 x5_1) != 92) = false := bne_eq_false_iff_eq.mpr c9
                clear c9
                replace H := Option.bind_eq_some_iff.mp H
                obtain ⟨⟨t150, t151⟩, A100, H⟩ := H
                replace H : (if t151 = true then ((spec_unit.f k1 js4 (wrap64 (x5_1 + 6))).bind fun bt156 => (if bt156.2 = true then ((spec_high.f t150).bind fun t158 => (if t158 = true then ((spec_low.f bt156.1).bind fun t159 => (if t159 = true then ((spec_appendUTF8.f k1 x3_1 (wrap64 ((wrap64 (65536 + (wrap64 ((wrap64 (t150 - 55296)) * 1024)))) + (wrap64 (bt156.1 - 56320))))).bind fun t160 => (spec_Unquote.l0 k1 t160 js4 (wrap64 ((wrap64 (x5_1 + 6)) + 6)))) else ((spec_appendUTF8.f k1 x3_1 t150).bind fun t163 => (spec_Unquote.l0 k1 t163 js4 (wrap64 (x5_1 + 6)))))) else ((spec_appendUTF8.f k1 x3_1 t150).bind fun t166 => (spec_Unquote.l0 k1 t166 js4 (wrap64 (x5_1 + 6)))))) else ((spec_appendUTF8.f k1 x3_1 t150).bind fun t169 => (spec_Unquote.l0 k1 t169 js4 (wrap64 (x5_1 + 6)))))) else (if 0 ≤ (wrap64 (x5_1 + 1)) then (if (wrap64 (x5_1 + 1)) < (js4.size : Int) then ((spec_short.f (bt js4 (wrap64 (x5_1 + 1)))).bind fun t152 => (if x3_1.length < 140737488355328 then (spec_Unquote.l0 k1 (x3_1 ++ [t152]) js4 (wrap64 (x5_1 + 2))) else (none))) else (none)) else (none))) = some r := H
                have A10 := Aside0.mk A100
                clear A100
                by_cases c11 : t151 = true
                · subst c11
                  have H1 : ((spec_unit.f k1 js4 (wrap64 (x5_1 + 6))).bind fun bt156 => (if bt156.2 = true then ((spec_high.f t150).bind fun t158 => (if t158 = true then ((spec_low.f bt156.1).bind fun t159 => (if t159 = true then ((spec_appendUTF8.f k1 x3_1 (wrap64 ((wrap64 (65536 + (wrap64 ((wrap64 (t150 - 55296)) * 1024)))) + (wrap64 (bt156.1 - 56320))))).bind fun t160 => (spec_Unquote.l0 k1 t160 js4 (wrap64 ((wrap64 (x5_1 + 6)) + 6)))) else ((spec_appendUTF8.f k1 x3_1 t150).bind fun t163 => (spec_Unquote.l0 k1 t163 js4 (wrap64 (x5_1 + 6)))))) else ((spec_appendUTF8.f k1 x3_1 t150).bind fun t166 => (spec_Unquote.l0 k1 t166 js4 (wrap64 (x5_1 + 6)))))) else ((spec_appendUTF8.f k1 x3_1 t150).bind fun t169 => (spec_Unquote.l0 k1 t169 js4 (wrap64 (x5_1 + 6)))))) = some r := by rw [if_pos rfl] at H; exact H
                  clear H
                  have H := H1
                  clear H1
                  replace H := Option.bind_eq_some_iff.mp H
                  obtain ⟨⟨t156, t157⟩, A120, H⟩ := H
                  replace H : (if t157 = true then ((spec_high.f t150).bind fun t158 => (if t158 = true then ((spec_low.f t156).bind fun t159 => (if t159 = true then ((spec_appendUTF8.f k1 x3_1 (wrap64 ((wrap64 (65536 + (wrap64 ((wrap64 (t150 - 55296)) * 1024)))) + (wrap64 (t156 - 56320))))).bind fun t160 => (spec_Unquote.l0 k1 t160 js4 (wrap64 ((wrap64 (x5_1 + 6)) + 6)))) else ((spec_appendUTF8.f k1 x3_1 t150).bind fun t163 => (spec_Unquote.l0 k1 t163 js4 (wrap64 (x5_1 + 6)))))) else ((spec_appendUTF8.f k1 x3_1 t150).bind fun t166 => (spec_Unquote.l0 k1 t166 js4 (wrap64 (x5_1 + 6)))))) else ((spec_appendUTF8.f k1 x3_1 t150).bind fun t169 => (spec_Unquote.l0 k1 t169 js4 (wrap64 (x5_1 + 6))))) = some r := H
                  have A12 := Aside0.mk A120
                  clear A120
                  by_cases c13 : t157 = true
                  · subst c13
                    have H1 : ((spec_high.f t150).bind fun t158 => (if t158 = true then ((spec_low.f t156).bind fun t159 => (if t159 = true then ((spec_appendUTF8.f k1 x3_1 (wrap64 ((wrap64 (65536 + (wrap64 ((wrap64 (t150 - 55296)) * 1024)))) + (wrap64 (t156 - 56320))))).bind fun t160 => (spec_Unquote.l0 k1 t160 js4 (wrap64 ((wrap64 (x5_1 + 6)) + 6)))) else ((spec_appendUTF8.f k1 x3_1 t150).bind fun t163 => (spec_Unquote.l0 k1 t163 js4 (wrap64 (x5_1 + 6)))))) else ((spec_appendUTF8.f k1 x3_1 t150).bind fun t166 => (spec_Unquote.l0 k1 t166 js4 (wrap64 (x5_1 + 6)))))) = some r := by rw [if_pos rfl] at H; exact H
                    clear H
                    have H := H1
                    clear H1
                    replace H := Option.bind_eq_some_iff.mp H
                    obtain ⟨t158, A140, H⟩ := H
                    replace H : (if t158 = true then ((spec_low.f t156).bind fun t159 => (if t159 = true then ((spec_appendUTF8.f k1 x3_1 (wrap64 ((wrap64 (65536 + (wrap64 ((wrap64 (t150 - 55296)) * 1024)))) + (wrap64 (t156 - 56320))))).bind fun t160 => (spec_Unquote.l0 k1 t160 js4 (wrap64 ((wrap64 (x5_1 + 6)) + 6)))) else ((spec_appendUTF8.f k1 x3_1 t150).bind fun t163 => (spec_Unquote.l0 k1 t163 js4 (wrap64 (x5_1 + 6)))))) else ((spec_appendUTF8.f k1 x3_1 t150).bind fun t166 => (spec_Unquote.l0 k1 t166 js4 (wrap64 (x5_1 + 6))))) = some r := H
                    have A14 := Aside0.mk A140
                    clear A140
                    by_cases c15 : t158 = true
                    · subst c15
                      have H1 : ((spec_low.f t156).bind fun t159 => (if t159 = true then ((spec_appendUTF8.f k1 x3_1 (wrap64 ((wrap64 (65536 + (wrap64 ((wrap64 (t150 - 55296)) * 1024)))) + (wrap64 (t156 - 56320))))).bind fun t160 => (spec_Unquote.l0 k1 t160 js4 (wrap64 ((wrap64 (x5_1 + 6)) + 6)))) else ((spec_appendUTF8.f k1 x3_1 t150).bind fun t163 => (spec_Unquote.l0 k1 t163 js4 (wrap64 (x5_1 + 6)))))) = some r := by rw [if_pos rfl] at H; exact H
                      clear H
                      have H := H1
                      clear H1
                      replace H := Option.bind_eq_some_iff.mp H
                      obtain ⟨t159, A160, H⟩ := H
                      replace H : (if t159 = true then ((spec_appendUTF8.f k1 x3_1 (wrap64 ((wrap64 (65536 + (wrap64 ((wrap64 (t150 - 55296)) * 1024)))) + (wrap64 (t156 - 56320))))).bind fun t160 => (spec_Unquote.l0 k1 t160 js4 (wrap64 ((wrap64 (x5_1 + 6)) + 6)))) else ((spec_appendUTF8.f k1 x3_1 t150).bind fun t163 => (spec_Unquote.l0 k1 t163 js4 (wrap64 (x5_1 + 6))))) = some r := H
                      have A16 := Aside0.mk A160
                      clear A160
                      by_cases c17 : t159 = true
                      · subst c17
                        have H1 : ((spec_appendUTF8.f k1 x3_1 (wrap64 ((wrap64 (65536 + (wrap64 ((wrap64 (t150 - 55296)) * 1024)))) + (wrap64 (t156 - 56320))))).bind fun t160 => (spec_Unquote.l0 k1 t160 js4 (wrap64 ((wrap64 (x5_1 + 6)) + 6)))) = some r := by rw [if_pos rfl] at H; exact H
                        clear H
                        have H := H1
                        clear H1
                        replace H := Option.bind_eq_some_iff.mp H
                        obtain ⟨t160, A180, H⟩ := H
                        replace H : (spec_Unquote.l0 k1 t160 js4 (wrap64 ((wrap64 (x5_1 + 6)) + 6))) = some r := H
                        have A18 := Aside0.mk A180
                        clear A180
                        have H' := Aside0.mk H
                        clear H
                        have p8 : 0 ≤ (x5_1 : Int) := of_decide_eq_true (by first | (with_reducible assumption) | assumption)
                        have q8 : x5_1 < (js4.size : Int) := of_decide_eq_true (by first | (with_reducible assumption) | assumption)
                        have hx8 := bt_at js4 x5_1
                        replace p8 := eq_true p8
                        replace q8 := eq_true q8
                        go_wp2_with (first | ((with_reducible refine gate_callee (f := 42) rfl ?_); refine goesL_ (some 34) rfl rfl Tryd.func42 (by kernel_rfl) rfl #[.string js4, .int .i64 x5_1] rfl (by (try simp only [List.map_toArray, List.map_cons, List.map_nil]); first | done | rfl | (simp only [List.length_drop, List.length_take]; rfl)) ?_; (with_reducible refine (spec_unit.calls k1 js4 x5_1 t150 true _ A10.out).mono ?_); rintro e w' ⟨rfl, ⟨nd, rfl⟩⟩; refine ⟨_, rfl, ?_⟩) | ((with_reducible refine gate_callee (f := 42) rfl ?_); refine goesL_ (some 54) rfl rfl Tryd.func42 (by kernel_rfl) rfl #[.string js4, .int .i64 (wrap64 (x5_1 + 6))] rfl (by (try simp only [List.map_toArray, List.map_cons, List.map_nil]); first | done | rfl | (simp only [List.length_drop, List.length_take]; rfl)) ?_; (with_reducible refine (spec_unit.calls k1 js4 (wrap64 (x5_1 + 6)) t156 true _ A12.out).mono ?_); rintro e w' ⟨rfl, ⟨nd, rfl⟩⟩; refine ⟨_, rfl, ?_⟩) | (go_at_call 43; (with_reducible refine (spec_high.calls t150 true _ A14.out).mono ?_); rintro e w' ⟨rfl, ⟨nd, rfl⟩⟩) | (go_at_call 44; (with_reducible refine (spec_low.calls t156 true _ A16.out).mono ?_); rintro e w' ⟨rfl, ⟨nd, rfl⟩⟩; obtain ⟨Ao19, co19, eo19⟩ := Kd.R_slice HO_3.out; subst eo19) | ((with_reducible refine gate_callee (f := 65) rfl ?_); refine goesL_ (some 77) rfl rfl Tryd.func65 (by kernel_rfl) rfl #[.slice Ao19 x3_1.length co19, .int .i64 (wrap64 ((wrap64 (65536 + (wrap64 ((wrap64 (t150 - 55296)) * 1024)))) + (wrap64 (t156 - 56320))))] rfl (by (try simp only [List.map_toArray, List.map_cons, List.map_nil]); first | done | rfl | (simp only [List.length_drop, List.length_take]; rfl)) ?_; (with_reducible refine (spec_appendUTF8.calls k1 (fun k_ => some k_ = (.slice Ao19 x3_1.length co19 : Value).ownBlock) (.slice Ao19 x3_1.length co19) x3_1 (wrap64 ((wrap64 (65536 + (wrap64 ((wrap64 (t150 - 55296)) * 1024)))) + (wrap64 (t156 - 56320)))) t160 w _ ?side1 ?side2 A18.out).mono ?_); (case side1 => repeat (first | (with_reducible first | exact HB.out | apply below_alloc | apply pw_below_drewN | apply below_drew1) | exact HB.out)); (case side2 => exact Kd.R_tight rfl HO_3.out); rintro e w20 ⟨v161, rfl, ho0, hb, hkp⟩; refine ⟨_, rfl, ?_⟩; have n0_ := Aside0.mk (Kd.R_mono (ok' := fun k_ => True) ho0 (fun k_ hk_ => trivial)); have n1_ := Aside0.mk (hb); clear HB; clear HO_3; have HO162 := n0_; have HB := n1_; clear n0_ n1_; (try clear hb); (try clear hkp); (try clear ho0)))
                        go_roundg k1
                        case measure => have := HK1.out; omega
                        case rel => exact ⟨(t160), (wrap64 ((wrap64 (x5_1 + 6)) + 6)), (by first | rfl | (simp; done) | (simp [*]; done)), H', ⟨by have := HK1.out; omega⟩, ⟨by (with_reducible repeat (first | apply Kd.R_alloc | apply Kd.R_drewN | apply Kd.R_drew)); exact HO162.out⟩, ⟨by repeat (first | (with_reducible first | exact HB.out | apply below_alloc | apply pw_below_drewN | apply below_drew1) | exact HB.out)⟩⟩
                      · replace c17 := Bool.eq_false_iff.mpr c17
                        subst c17
                        have H1 : ((spec_appendUTF8.f k1 x3_1 t150).bind fun t163 => (spec_Unquote.l0 k1 t163 js4 (wrap64 (x5_1 + 6)))) = some r := by rw [if_neg (show ¬ (false = true) by decide)] at H; exact H
                        clear H
                        have H := H1
                        clear H1
                        replace H := Option.bind_eq_some_iff.mp H
                        obtain ⟨t163, A210, H⟩ := H
                        replace H : (spec_Unquote.l0 k1 t163 js4 (wrap64 (x5_1 + 6))) = some r := H
                        have A21 := Aside0.mk A210
                        clear A210
                        have H' := Aside0.mk H
                        clear H
                        have p8 : 0 ≤ (x5_1 : Int) := of_decide_eq_true (by first | (with_reducible assumption) | assumption)
                        have q8 : x5_1 < (js4.size : Int) := of_decide_eq_true (by first | (with_reducible assumption) | assumption)
                        have hx8 := bt_at js4 x5_1
                        replace p8 := eq_true p8
                        replace q8 := eq_true q8
                        go_wp2_with (first | ((with_reducible refine gate_callee (f := 42) rfl ?_); refine goesL_ (some 34) rfl rfl Tryd.func42 (by kernel_rfl) rfl #[.string js4, .int .i64 x5_1] rfl (by (try simp only [List.map_toArray, List.map_cons, List.map_nil]); first | done | rfl | (simp only [List.length_drop, List.length_take]; rfl)) ?_; (with_reducible refine (spec_unit.calls k1 js4 x5_1 t150 true _ A10.out).mono ?_); rintro e w' ⟨rfl, ⟨nd, rfl⟩⟩; refine ⟨_, rfl, ?_⟩) | ((with_reducible refine gate_callee (f := 42) rfl ?_); refine goesL_ (some 54) rfl rfl Tryd.func42 (by kernel_rfl) rfl #[.string js4, .int .i64 (wrap64 (x5_1 + 6))] rfl (by (try simp only [List.map_toArray, List.map_cons, List.map_nil]); first | done | rfl | (simp only [List.length_drop, List.length_take]; rfl)) ?_; (with_reducible refine (spec_unit.calls k1 js4 (wrap64 (x5_1 + 6)) t156 true _ A12.out).mono ?_); rintro e w' ⟨rfl, ⟨nd, rfl⟩⟩; refine ⟨_, rfl, ?_⟩) | (go_at_call 43; (with_reducible refine (spec_high.calls t150 true _ A14.out).mono ?_); rintro e w' ⟨rfl, ⟨nd, rfl⟩⟩) | (go_at_call 44; (with_reducible refine (spec_low.calls t156 false _ A16.out).mono ?_); rintro e w' ⟨rfl, ⟨nd, rfl⟩⟩; obtain ⟨Ao22, co22, eo22⟩ := Kd.R_slice HO_3.out; subst eo22) | ((with_reducible refine gate_callee (f := 65) rfl ?_); refine goesL_ (some 77) rfl rfl Tryd.func65 (by kernel_rfl) rfl #[.slice Ao22 x3_1.length co22, .int .i64 t150] rfl (by (try simp only [List.map_toArray, List.map_cons, List.map_nil]); first | done | rfl | (simp only [List.length_drop, List.length_take]; rfl)) ?_; (with_reducible refine (spec_appendUTF8.calls k1 (fun k_ => some k_ = (.slice Ao22 x3_1.length co22 : Value).ownBlock) (.slice Ao22 x3_1.length co22) x3_1 t150 t163 w _ ?side1 ?side2 A21.out).mono ?_); (case side1 => repeat (first | (with_reducible first | exact HB.out | apply below_alloc | apply pw_below_drewN | apply below_drew1) | exact HB.out)); (case side2 => exact Kd.R_tight rfl HO_3.out); rintro e w23 ⟨v164, rfl, ho0, hb, hkp⟩; refine ⟨_, rfl, ?_⟩; have n0_ := Aside0.mk (Kd.R_mono (ok' := fun k_ => True) ho0 (fun k_ hk_ => trivial)); have n1_ := Aside0.mk (hb); clear HB; clear HO_3; have HO165 := n0_; have HB := n1_; clear n0_ n1_; (try clear hb); (try clear hkp); (try clear ho0)))
                        go_roundg k1
                        case measure => have := HK1.out; omega
                        case rel => exact ⟨(t163), (wrap64 (x5_1 + 6)), (by first | rfl | (simp; done) | (simp [*]; done)), H', ⟨by have := HK1.out; omega⟩, ⟨by (with_reducible repeat (first | apply Kd.R_alloc | apply Kd.R_drewN | apply Kd.R_drew)); exact HO165.out⟩, ⟨by repeat (first | (with_reducible first | exact HB.out | apply below_alloc | apply pw_below_drewN | apply below_drew1) | exact HB.out)⟩⟩
                    · replace c15 := Bool.eq_false_iff.mpr c15
                      subst c15
                      have H1 : ((spec_appendUTF8.f k1 x3_1 t150).bind fun t166 => (spec_Unquote.l0 k1 t166 js4 (wrap64 (x5_1 + 6)))) = some r := by rw [if_neg (show ¬ (false = true) by decide)] at H; exact H
                      clear H
                      have H := H1
                      clear H1
                      replace H := Option.bind_eq_some_iff.mp H
                      obtain ⟨t166, A240, H⟩ := H
                      replace H : (spec_Unquote.l0 k1 t166 js4 (wrap64 (x5_1 + 6))) = some r := H
                      have A24 := Aside0.mk A240
                      clear A240
                      have H' := Aside0.mk H
                      clear H
                      have p8 : 0 ≤ (x5_1 : Int) := of_decide_eq_true (by first | (with_reducible assumption) | assumption)
                      have q8 : x5_1 < (js4.size : Int) := of_decide_eq_true (by first | (with_reducible assumption) | assumption)
                      have hx8 := bt_at js4 x5_1
                      replace p8 := eq_true p8
                      replace q8 := eq_true q8
                      go_wp2_with (first | ((with_reducible refine gate_callee (f := 42) rfl ?_); refine goesL_ (some 34) rfl rfl Tryd.func42 (by kernel_rfl) rfl #[.string js4, .int .i64 x5_1] rfl (by (try simp only [List.map_toArray, List.map_cons, List.map_nil]); first | done | rfl | (simp only [List.length_drop, List.length_take]; rfl)) ?_; (with_reducible refine (spec_unit.calls k1 js4 x5_1 t150 true _ A10.out).mono ?_); rintro e w' ⟨rfl, ⟨nd, rfl⟩⟩; refine ⟨_, rfl, ?_⟩) | ((with_reducible refine gate_callee (f := 42) rfl ?_); refine goesL_ (some 54) rfl rfl Tryd.func42 (by kernel_rfl) rfl #[.string js4, .int .i64 (wrap64 (x5_1 + 6))] rfl (by (try simp only [List.map_toArray, List.map_cons, List.map_nil]); first | done | rfl | (simp only [List.length_drop, List.length_take]; rfl)) ?_; (with_reducible refine (spec_unit.calls k1 js4 (wrap64 (x5_1 + 6)) t156 true _ A12.out).mono ?_); rintro e w' ⟨rfl, ⟨nd, rfl⟩⟩; refine ⟨_, rfl, ?_⟩) | (go_at_call 43; (with_reducible refine (spec_high.calls t150 false _ A14.out).mono ?_); rintro e w' ⟨rfl, ⟨nd, rfl⟩⟩; obtain ⟨Ao25, co25, eo25⟩ := Kd.R_slice HO_3.out; subst eo25) | ((with_reducible refine gate_callee (f := 65) rfl ?_); refine goesL_ (some 77) rfl rfl Tryd.func65 (by kernel_rfl) rfl #[.slice Ao25 x3_1.length co25, .int .i64 t150] rfl (by (try simp only [List.map_toArray, List.map_cons, List.map_nil]); first | done | rfl | (simp only [List.length_drop, List.length_take]; rfl)) ?_; (with_reducible refine (spec_appendUTF8.calls k1 (fun k_ => some k_ = (.slice Ao25 x3_1.length co25 : Value).ownBlock) (.slice Ao25 x3_1.length co25) x3_1 t150 t166 w _ ?side1 ?side2 A24.out).mono ?_); (case side1 => repeat (first | (with_reducible first | exact HB.out | apply below_alloc | apply pw_below_drewN | apply below_drew1) | exact HB.out)); (case side2 => exact Kd.R_tight rfl HO_3.out); rintro e w26 ⟨v167, rfl, ho0, hb, hkp⟩; refine ⟨_, rfl, ?_⟩; have n0_ := Aside0.mk (Kd.R_mono (ok' := fun k_ => True) ho0 (fun k_ hk_ => trivial)); have n1_ := Aside0.mk (hb); clear HB; clear HO_3; have HO168 := n0_; have HB := n1_; clear n0_ n1_; (try clear hb); (try clear hkp); (try clear ho0)))
                      go_roundg k1
                      case measure => have := HK1.out; omega
                      case rel => exact ⟨(t166), (wrap64 (x5_1 + 6)), (by first | rfl | (simp; done) | (simp [*]; done)), H', ⟨by have := HK1.out; omega⟩, ⟨by (with_reducible repeat (first | apply Kd.R_alloc | apply Kd.R_drewN | apply Kd.R_drew)); exact HO168.out⟩, ⟨by repeat (first | (with_reducible first | exact HB.out | apply below_alloc | apply pw_below_drewN | apply below_drew1) | exact HB.out)⟩⟩
                  · replace c13 := Bool.eq_false_iff.mpr c13
                    subst c13
                    have H1 : ((spec_appendUTF8.f k1 x3_1 t150).bind fun t169 => (spec_Unquote.l0 k1 t169 js4 (wrap64 (x5_1 + 6)))) = some r := by rw [if_neg (show ¬ (false = true) by decide)] at H; exact H
                    clear H
                    have H := H1
                    clear H1
                    replace H := Option.bind_eq_some_iff.mp H
                    obtain ⟨t169, A270, H⟩ := H
                    replace H : (spec_Unquote.l0 k1 t169 js4 (wrap64 (x5_1 + 6))) = some r := H
                    have A27 := Aside0.mk A270
                    clear A270
                    have H' := Aside0.mk H
                    clear H
                    have p8 : 0 ≤ (x5_1 : Int) := of_decide_eq_true (by first | (with_reducible assumption) | assumption)
                    have q8 : x5_1 < (js4.size : Int) := of_decide_eq_true (by first | (with_reducible assumption) | assumption)
                    have hx8 := bt_at js4 x5_1
                    replace p8 := eq_true p8
                    replace q8 := eq_true q8
                    go_wp2_with (first | ((with_reducible refine gate_callee (f := 42) rfl ?_); refine goesL_ (some 34) rfl rfl Tryd.func42 (by kernel_rfl) rfl #[.string js4, .int .i64 x5_1] rfl (by (try simp only [List.map_toArray, List.map_cons, List.map_nil]); first | done | rfl | (simp only [List.length_drop, List.length_take]; rfl)) ?_; (with_reducible refine (spec_unit.calls k1 js4 x5_1 t150 true _ A10.out).mono ?_); rintro e w' ⟨rfl, ⟨nd, rfl⟩⟩; refine ⟨_, rfl, ?_⟩) | ((with_reducible refine gate_callee (f := 42) rfl ?_); refine goesL_ (some 54) rfl rfl Tryd.func42 (by kernel_rfl) rfl #[.string js4, .int .i64 (wrap64 (x5_1 + 6))] rfl (by (try simp only [List.map_toArray, List.map_cons, List.map_nil]); first | done | rfl | (simp only [List.length_drop, List.length_take]; rfl)) ?_; (with_reducible refine (spec_unit.calls k1 js4 (wrap64 (x5_1 + 6)) t156 false _ A12.out).mono ?_); rintro e w' ⟨rfl, ⟨nd, rfl⟩⟩; refine ⟨_, rfl, ?_⟩; obtain ⟨Ao28, co28, eo28⟩ := Kd.R_slice HO_3.out; subst eo28) | ((with_reducible refine gate_callee (f := 65) rfl ?_); refine goesL_ (some 77) rfl rfl Tryd.func65 (by kernel_rfl) rfl #[.slice Ao28 x3_1.length co28, .int .i64 t150] rfl (by (try simp only [List.map_toArray, List.map_cons, List.map_nil]); first | done | rfl | (simp only [List.length_drop, List.length_take]; rfl)) ?_; (with_reducible refine (spec_appendUTF8.calls k1 (fun k_ => some k_ = (.slice Ao28 x3_1.length co28 : Value).ownBlock) (.slice Ao28 x3_1.length co28) x3_1 t150 t169 w _ ?side1 ?side2 A27.out).mono ?_); (case side1 => repeat (first | (with_reducible first | exact HB.out | apply below_alloc | apply pw_below_drewN | apply below_drew1) | exact HB.out)); (case side2 => exact Kd.R_tight rfl HO_3.out); rintro e w29 ⟨v170, rfl, ho0, hb, hkp⟩; refine ⟨_, rfl, ?_⟩; have n0_ := Aside0.mk (Kd.R_mono (ok' := fun k_ => True) ho0 (fun k_ hk_ => trivial)); have n1_ := Aside0.mk (hb); clear HB; clear HO_3; have HO171 := n0_; have HB := n1_; clear n0_ n1_; (try clear hb); (try clear hkp); (try clear ho0)))
                    go_roundg k1
                    case measure => have := HK1.out; omega
                    case rel => exact ⟨(t169), (wrap64 (x5_1 + 6)), (by first | rfl | (simp; done) | (simp [*]; done)), H', ⟨by have := HK1.out; omega⟩, ⟨by (with_reducible repeat (first | apply Kd.R_alloc | apply Kd.R_drewN | apply Kd.R_drew)); exact HO171.out⟩, ⟨by repeat (first | (with_reducible first | exact HB.out | apply below_alloc | apply pw_below_drewN | apply below_drew1) | exact HB.out)⟩⟩
                · replace c11 := Bool.eq_false_iff.mpr c11
                  subst c11
                  have H1 : (if 0 ≤ (wrap64 (x5_1 + 1)) then (if (wrap64 (x5_1 + 1)) < (js4.size : Int) then ((spec_short.f (bt js4 (wrap64 (x5_1 + 1)))).bind fun t152 => (if x3_1.length < 140737488355328 then (spec_Unquote.l0 k1 (x3_1 ++ [t152]) js4 (wrap64 (x5_1 + 2))) else (none))) else (none)) else (none)) = some r := by rw [if_neg (show ¬ (false = true) by decide)] at H; exact H
                  clear H
                  have H := H1
                  clear H1
                  obtain ⟨ji30, hji30⟩ : ∃ j_ : Int, (wrap64 (x5_1 + 1)) = j_ := ⟨_, rfl⟩
                  replace H : (if 0 ≤ (ji30) then (if (ji30) < (js4.size : Int) then ((spec_short.f (bt js4 (ji30))).bind fun t152 => (if x3_1.length < 140737488355328 then (spec_Unquote.l0 k1 (x3_1 ++ [t152]) js4 (wrap64 (x5_1 + 2))) else (none))) else (none)) else (none)) = some r := by first | (rw [hji30] at H; exact H) | (simp only [hji30] at H ⊢; exact H)
                  (try rw [hji30] at A10)
                  have hji30w : (IntKind.i64.wrap (x5_1 + 1)) = ji30 := (i64_w _).trans hji30
                  by_cases c31 : 0 ≤ (ji30)
                  · rw [if_pos c31] at H
                    have c31b0 : decide (0 ≤ (ji30)) = true := decide_eq_true c31
                    clear c31
                    by_cases c32 : (ji30) < (js4.size : Int)
                    · rw [if_pos c32] at H
                      have c32b0 : decide ((ji30) < (js4.size : Int)) = true := decide_eq_true c32
                      clear c32
                      replace H := Option.bind_eq_some_iff.mp H
                      obtain ⟨t152, A340, H⟩ := H
                      replace H : (if x3_1.length < 140737488355328 then (spec_Unquote.l0 k1 (x3_1 ++ [t152]) js4 (wrap64 (x5_1 + 2))) else (none)) = some r := H
                      have A34 := Aside0.mk A340
                      clear A340
                      by_cases c35 : x3_1.length < 140737488355328
                      · rw [if_pos c35] at H
                        have LMc35 := Aside0.mk c35
                        clear c35
                        obtain ⟨y153, hy153⟩ : ∃ y_ : List Int, y_ = (x3_1 ++ [t152]) := ⟨_, rfl⟩
                        replace H : (spec_Unquote.l0 k1 y153 js4 (wrap64 (x5_1 + 2))) = some r := by first | (rw [hy153]; with_reducible exact H) | (have H2_ := (Option.bind_some _ _).symm.trans H; rw [hy153]; with_reducible exact H2_) | (have H2_ := (Option.bind_some _ _).symm.trans H; with_reducible exact H2_) | with_reducible exact H | (rw [hy153]; exact H) | exact H
                        have Ny153 := Aside0.mk hy153
                        clear hy153
                        have H' := Aside0.mk H
                        clear H
                        have p8 : 0 ≤ (x5_1 : Int) := of_decide_eq_true (by first | (with_reducible assumption) | assumption)
                        have q8 : x5_1 < (js4.size : Int) := of_decide_eq_true (by first | (with_reducible assumption) | assumption)
                        have hx8 := bt_at js4 x5_1
                        replace p8 := eq_true p8
                        replace q8 := eq_true q8
                        go_wp2_with (first | ((with_reducible refine gate_callee (f := 42) rfl ?_); refine goesL_ (some 34) rfl rfl Tryd.func42 (by kernel_rfl) rfl #[.string js4, .int .i64 x5_1] rfl (by (try simp only [List.map_toArray, List.map_cons, List.map_nil]); first | done | rfl | (simp only [List.length_drop, List.length_take]; rfl)) ?_; (with_reducible refine (spec_unit.calls k1 js4 x5_1 t150 false _ A10.out).mono ?_); rintro e w' ⟨rfl, ⟨nd, rfl⟩⟩; refine ⟨_, rfl, ?_⟩; have p33 : 0 ≤ ((ji30) : Int) := of_decide_eq_true (by first | (with_reducible assumption) | assumption); have q33 : (ji30) < (js4.size : Int) := of_decide_eq_true (by first | (with_reducible assumption) | assumption); have hx33 := bt_at js4 (ji30); replace p33 := eq_true p33; replace q33 := eq_true q33) | ((with_reducible refine gate_callee (f := 64) rfl ?_); refine goesL_ (some 44) rfl rfl Tryd.func64 (by kernel_rfl) rfl #[.int .u8 (bt js4 (ji30))] rfl (by (try simp only [List.map_toArray, List.map_cons, List.map_nil]); first | done | (simp only [hji30]; rfl) | rfl | (simp only [List.length_drop, List.length_take]; rfl)) ?_; (with_reducible refine (spec_short.calls (bt js4 (ji30)) t152 _ A34.out).mono ?_); rintro e w' ⟨rfl, ⟨nd, rfl⟩⟩; refine ⟨_, rfl, ?_⟩) | ((with_reducible refine gate_builtin (b := .append) (xs := #[.tmp 39, .tmp 45]) rfl ?_); at_builtin; refine Kd.R_append (Kd.int .u8) (w0 := w) w.heap.size rfl (.tmp 39) (.tmp 45) 53 5 (.int .u8 0) 1 rfl Tryd.underlying53 info5 rfl (by decide) (by omega) u3 x3_1 t152 [.int .u8 t152] (fun _ => True) (fun _ => False) rfl rfl ?aP (fun _ hk => hk.elim) ?aF ?aO ?aB ?aS ?aL ?_; (case aP => exact rfl); (case aB => exact (by repeat (first | (with_reducible first | exact HB.out | apply below_alloc | apply pw_below_drewN | apply below_drew1) | exact HB.out))); (case aF => exact (fun _ _ => trivial)); (case aO => exact (by (with_reducible repeat (first | apply Kd.R_alloc | apply Kd.R_drewN | apply Kd.R_drew)); exact HO_3.out)); (case aS => exact (below_size (by repeat (first | (with_reducible first | exact HB.out | apply below_alloc | apply pw_below_drewN | apply below_drew1) | exact HB.out)))); (case aL => have := LMc35.out; omega); intro v154 w36 ho hb hg hat; rw [← Ny153.out] at ho; have n0_ := Aside0.mk (hb); have n1_ := Aside0.mk (ho); clear HB; clear HO_3; have HB := n0_; have HO155 := n1_; clear n0_ n1_; clear ho hb hg hat))
                        go_roundg k1
                        case measure => have := HK1.out; omega
                        case rel => exact ⟨(y153), (wrap64 (x5_1 + 2)), (by first | rfl | (simp; done) | (simp [*]; done)), H', ⟨by have := HK1.out; omega⟩, ⟨by (with_reducible repeat (first | apply Kd.R_alloc | apply Kd.R_drewN | apply Kd.R_drew)); exact HO155.out⟩, ⟨by repeat (first | (with_reducible first | exact HB.out | apply below_alloc | apply pw_below_drewN | apply below_drew1) | exact HB.out)⟩⟩
                      · rw [if_neg c35] at H
                        exact absurd H (by simp)
                    · rw [if_neg c32] at H
                      exact absurd H (by simp)
                  · rw [if_neg c31] at H
                    exact absurd H (by simp)
              · rw [if_neg c9] at H
                have c9b0 : ((bt js4 x5_1) == 92) = false := beq_eq_false_iff_ne.mpr c9
                have c9b1 : ((bt js4 x5_1) != 92) = true := bne_iff_ne.mpr c9
                by_cases c38 : x3_1.length < 140737488355328
                · rw [if_pos c38] at H
                  have LMc38 := Aside0.mk c38
                  clear c38
                  obtain ⟨y147, hy147⟩ : ∃ y_ : List Int, y_ = (x3_1 ++ [bt js4 x5_1]) := ⟨_, rfl⟩
                  replace H : (spec_Unquote.l0 k1 y147 js4 (wrap64 (x5_1 + 1))) = some r := by first | (rw [hy147]; with_reducible exact H) | (have H2_ := (Option.bind_some _ _).symm.trans H; rw [hy147]; with_reducible exact H2_) | (have H2_ := (Option.bind_some _ _).symm.trans H; with_reducible exact H2_) | with_reducible exact H | (rw [hy147]; exact H) | exact H
                  have Ny147 := Aside0.mk hy147
                  clear hy147
                  have H' := Aside0.mk H
                  clear H
                  have p8 : 0 ≤ (x5_1 : Int) := of_decide_eq_true (by first | (with_reducible assumption) | assumption)
                  have q8 : x5_1 < (js4.size : Int) := of_decide_eq_true (by first | (with_reducible assumption) | assumption)
                  have hx8 := bt_at js4 x5_1
                  replace p8 := eq_true p8
                  replace q8 := eq_true q8
                  have p37 : 0 ≤ (x5_1 : Int) := of_decide_eq_true (by first | (with_reducible assumption) | assumption)
                  have q37 : x5_1 < (js4.size : Int) := of_decide_eq_true (by first | (with_reducible assumption) | assumption)
                  have hx37 := bt_at js4 x5_1
                  replace p37 := eq_true p37
                  replace q37 := eq_true q37
                  go_wp2_with (first | ((with_reducible refine gate_builtin (b := .append) (xs := #[.tmp 23, .tmp 27]) rfl ?_); at_builtin; refine Kd.R_append (Kd.int .u8) (w0 := w) w.heap.size rfl (.tmp 23) (.tmp 27) 53 5 (.int .u8 0) 1 rfl Tryd.underlying53 info5 rfl (by decide) (by omega) u3 x3_1 (bt js4 x5_1) [.int .u8 (bt js4 x5_1)] (fun _ => True) (fun _ => False) rfl rfl ?aP (fun _ hk => hk.elim) ?aF ?aO ?aB ?aS ?aL ?_; (case aP => exact rfl); (case aB => exact (by repeat (first | (with_reducible first | exact HB.out | apply below_alloc | apply pw_below_drewN | apply below_drew1) | exact HB.out))); (case aF => exact (fun _ _ => trivial)); (case aO => exact (by (with_reducible repeat (first | apply Kd.R_alloc | apply Kd.R_drewN | apply Kd.R_drew)); exact HO_3.out)); (case aS => exact (below_size (by repeat (first | (with_reducible first | exact HB.out | apply below_alloc | apply pw_below_drewN | apply below_drew1) | exact HB.out)))); (case aL => have := LMc38.out; omega); intro v148 w39 ho hb hg hat; rw [← Ny147.out] at ho; have n0_ := Aside0.mk (hb); have n1_ := Aside0.mk (ho); clear HB; clear HO_3; have HB := n0_; have HO149 := n1_; clear n0_ n1_; clear ho hb hg hat))
                  go_roundg k1
                  case measure => have := HK1.out; omega
                  case rel => exact ⟨(y147), (wrap64 (x5_1 + 1)), (by first | rfl | (simp; done) | (simp [*]; done)), H', ⟨by have := HK1.out; omega⟩, ⟨by (with_reducible repeat (first | apply Kd.R_alloc | apply Kd.R_drewN | apply Kd.R_drew)); exact HO149.out⟩, ⟨by repeat (first | (with_reducible first | exact HB.out | apply below_alloc | apply pw_below_drewN | apply below_drew1) | exact HB.out)⟩⟩
                · rw [if_neg c38] at H
                  exact absurd H (by simp)
            · rw [if_neg c7] at H
              exact absurd H (by simp)
          · rw [if_neg c6] at H
            have c6b0 : decide (x5_1 < (js4.size : Int)) = false := decide_eq_false c6
            clear c6
            obtain rfl := Option.some.inj H
            have hcv40 := own_string (P := Tryd.prog) Tryd.underlying53 Tryd.underlying5 Tryd.underlying9 (Kd.own_of_R HO_3.out)
            go_wp2
            go_ret
            exact ⟨by first | rfl | (simp [errW_none, errW_some] <;> rfl) | (simp [*, errW_none, errW_some] <;> rfl), by repeat (first | (with_reducible first | exact HB.out | apply below_alloc | apply pw_below_drewN | apply below_drew1) | exact HB.out)⟩
    · rw [if_neg c3] at H
      exact absurd H (by simp)
  · rw [if_neg c2] at H
    exact absurd H (by simp)

end Go.Proofs.YtfpbbnllaogclaaDoor.PJ
