-- Written by a program of this session out of the translation (a changed copy of the kit's print); Lean checks it.
import Derived.Test.YtfpbbnllaogclaaDoorPJx0
import Derived.Test.YtfpbbnllaogclaaDoorPJx15
import Derived.Test.YtfpbbnllaogclaaDoorPJx16
import Derived.Test.YtfpbbnllaogclaaDoorPJx17
namespace Go.Proofs.YtfpbbnllaogclaaDoor.PJ
open Go.RowKit Go.Proofs.YtfpbbnllaogclaaDoorW.PrintWords Go.Proofs.YtfpbbnllaogclaaDoorW.PrintLast Go.Proofs.YtfpbbnllaogclaaDoorW.PrintMore
attribute [local go_sem] max2_int min2_int max_two min_two max_three min_three max_four min_four   -- for this text's walks alone
set_option linter.unusedVariables false
set_option linter.unusedSimpArgs false

/-! ### jsonparser_decodeUnicodeEscape: function 96 -/
def jsonparser_decodeUnicodeEscape.j0 : Nat → List Int → Int → Bool → Option (Int × Int)
  | 0, _, _, _ => none
  | k + 1, x0, x4, x35 => if x35 = true then (some (65533, 6)) else (if 6 ≤ (x0.length : Int) then ((jsonparser_decodeSingleUnicodeEscape.f k (x0.drop 6)).bind fun bt191 => (if bt191.2 = true then (if bt191.1 < 56320 then (some (65533, 6)) else (if bt191.1 > 57343 then (some (65533, 6)) else ((jsonparser_combineUTF16Surrogates.f x4 bt191.1).bind fun t193 => (some (t193, 12))))) else (some (65533, (-1))))) else (none))
def jsonparser_decodeUnicodeEscape.f (k : Nat) (l0 : List Int) : Option (Int × Int) := (jsonparser_decodeSingleUnicodeEscape.f k l0).bind fun bt185 => (if bt185.2 = true then ((jsonparser_isUTF16EncodedRune.f bt185.1).bind fun t187 => (if t187 = true then (if bt185.1 ≥ 56320 then (some (65533, 6)) else (if (l0.length : Int) < 8 then (jsonparser_decodeUnicodeEscape.j0 k l0 bt185.1 true) else (if 6 < (l0.length : Int) then (if (rd l0 6) = 92 then (if 7 < (l0.length : Int) then (jsonparser_decodeUnicodeEscape.j0 k l0 bt185.1 ((rd l0 7) != 117)) else (none)) else (jsonparser_decodeUnicodeEscape.j0 k l0 bt185.1 true)) else (none)))) else (some (bt185.1, 6)))) else (some (65533, (-1))))
theorem jsonparser_decodeUnicodeEscape.mono_l : ∀ k, (∀ y0 y1 y2, LeO (jsonparser_decodeUnicodeEscape.j0 k y0 y1 y2) (jsonparser_decodeUnicodeEscape.j0 (k + 1) y0 y1 y2))
  | 0 => fun _ _ _ r h => by simp [jsonparser_decodeUnicodeEscape.j0] at h
  | k + 1 => by
    have ih0 := jsonparser_decodeUnicodeEscape.mono_l k
    · intro y0 y1 y2
      unfold jsonparser_decodeUnicodeEscape.j0
      repeat' first
      | (with_reducible exact ih0 _ _ _)
      | (with_reducible exact jsonparser_decodeSingleUnicodeEscape.mono _ _)
      | (with_reducible exact LeO.refl _)
      | (with_reducible exact LeO.none _)
      | (with_reducible refine LeO.ite ?_ ?_)
      | (with_reducible refine LeO.bind ?_ (fun _ => ?_))
      | exact ih0 _ _ _
      | exact jsonparser_decodeSingleUnicodeEscape.mono _ _
      | exact LeO.none _
      | refine LeO.ite ?_ ?_
      | refine LeO.bind ?_ (fun _ => ?_)
theorem jsonparser_decodeUnicodeEscape.mono : ∀ a0 k, LeO (jsonparser_decodeUnicodeEscape.f k a0) (jsonparser_decodeUnicodeEscape.f (k + 1) a0) := by
  intro a0 k
  have ih0 := jsonparser_decodeUnicodeEscape.mono_l k
  unfold jsonparser_decodeUnicodeEscape.f
  repeat' first
      | (with_reducible exact ih0 _ _ _)
      | (with_reducible exact jsonparser_decodeSingleUnicodeEscape.mono _ _)
      | (with_reducible exact LeO.refl _)
      | (with_reducible exact LeO.none _)
      | (with_reducible refine LeO.ite ?_ ?_)
      | (with_reducible refine LeO.bind ?_ (fun _ => ?_))
      | exact ih0 _ _ _
      | exact jsonparser_decodeSingleUnicodeEscape.mono _ _
      | exact LeO.none _
      | refine LeO.ite ?_ ?_
      | refine LeO.bind ?_ (fun _ => ?_)
set_option maxHeartbeats 8000000 in
set_option maxRecDepth 100000 in
theorem jsonparser_decodeUnicodeEscape.calls (k : Nat) (A0 : Option Addr) (c0 : Nat) (l0 : List Int) (r1 : Int) (r2 : Int) (w : World) (hr0 : Kd.C (Kd.int .u8) w A0 l0.length l0) (hc0 : l0.length ≤ c0) (h : jsonparser_decodeUnicodeEscape.f k l0 = some (r1, r2)) :
    Calls Tryd.prog 96 #[.slice A0 l0.length c0] w fun e w' => e = .returned (.tuple #[.int .i32 r1, .int .i64 r2]) ∧ Drawn0 w w' := by
  have HR0 := Aside0.mk hr0
  have HC0 := Aside0.mk hc0
  clear hr0 hc0
  have H : ((jsonparser_decodeSingleUnicodeEscape.f k l0).bind fun bt185 => (if bt185.2 = true then ((jsonparser_isUTF16EncodedRune.f bt185.1).bind fun t187 => (if t187 = true then (if bt185.1 ≥ 56320 then (some (65533, 6)) else (if (l0.length : Int) < 8 then (jsonparser_decodeUnicodeEscape.j0 k l0 bt185.1 true) else (if 6 < (l0.length : Int) then (if (rd l0 6) = 92 then (if 7 < (l0.length : Int) then (jsonparser_decodeUnicodeEscape.j0 k l0 bt185.1 ((rd l0 7) != 117)) else (none)) else (jsonparser_decodeUnicodeEscape.j0 k l0 bt185.1 true)) else (none)))) else (some (bt185.1, 6)))) else (some (65533, (-1))))) = some (r1, r2) := h
  clear h
  replace H := Option.bind_eq_some_iff.mp H
  obtain ⟨⟨t185, t186⟩, A20, H⟩ := H
  replace H : (if t186 = true then ((jsonparser_isUTF16EncodedRune.f t185).bind fun t187 => (if t187 = true then (if t185 ≥ 56320 then (some (65533, 6)) else (if (l0.length : Int) < 8 then (jsonparser_decodeUnicodeEscape.j0 k l0 t185 true) else (if 6 < (l0.length : Int) then (if (rd l0 6) = 92 then (if 7 < (l0.length : Int) then (jsonparser_decodeUnicodeEscape.j0 k l0 t185 ((rd l0 7) != 117)) else (none)) else (jsonparser_decodeUnicodeEscape.j0 k l0 t185 true)) else (none)))) else (some (t185, 6)))) else (some (65533, (-1)))) = some (r1, r2) := H
  have A2 := Aside0.mk A20
  clear A20
  by_cases c3 : t186 = true
  · subst c3
    have H1 : ((jsonparser_isUTF16EncodedRune.f t185).bind fun t187 => (if t187 = true then (if t185 ≥ 56320 then (some (65533, 6)) else (if (l0.length : Int) < 8 then (jsonparser_decodeUnicodeEscape.j0 k l0 t185 true) else (if 6 < (l0.length : Int) then (if (rd l0 6) = 92 then (if 7 < (l0.length : Int) then (jsonparser_decodeUnicodeEscape.j0 k l0 t185 ((rd l0 7) != 117)) else (none)) else (jsonparser_decodeUnicodeEscape.j0 k l0 t185 true)) else (none)))) else (some (t185, 6)))) = some (r1, r2) := by rw [if_pos rfl] at H; exact H
    clear H
    have H := H1
    clear H1
    replace H := Option.bind_eq_some_iff.mp H
    obtain ⟨t187, A40, H⟩ := H
    replace H : (if t187 = true then (if t185 ≥ 56320 then (some (65533, 6)) else (if (l0.length : Int) < 8 then (jsonparser_decodeUnicodeEscape.j0 k l0 t185 true) else (if 6 < (l0.length : Int) then (if (rd l0 6) = 92 then (if 7 < (l0.length : Int) then (jsonparser_decodeUnicodeEscape.j0 k l0 t185 ((rd l0 7) != 117)) else (none)) else (jsonparser_decodeUnicodeEscape.j0 k l0 t185 true)) else (none)))) else (some (t185, 6))) = some (r1, r2) := H
    have A4 := Aside0.mk A40
    clear A40
    by_cases c5 : t187 = true
    · subst c5
      have H1 : (if t185 ≥ 56320 then (some (65533, 6)) else (if (l0.length : Int) < 8 then (jsonparser_decodeUnicodeEscape.j0 k l0 t185 true) else (if 6 < (l0.length : Int) then (if (rd l0 6) = 92 then (if 7 < (l0.length : Int) then (jsonparser_decodeUnicodeEscape.j0 k l0 t185 ((rd l0 7) != 117)) else (none)) else (jsonparser_decodeUnicodeEscape.j0 k l0 t185 true)) else (none)))) = some (r1, r2) := by rw [if_pos rfl] at H; exact H
      clear H
      have H := H1
      clear H1
      by_cases c6 : t185 ≥ 56320
      · rw [if_pos c6] at H
        have c6b0 : decide (56320 ≤ t185) = true := decide_eq_true c6
        clear c6
        simp only [Option.some.injEq, Prod.mk.injEq] at H
        obtain ⟨rfl, rfl⟩ := H
        go_enter Tryd.func96, Tryd.ntmps96
        go_wp2_with (first | ((with_reducible refine gate_callee (f := 109) rfl ?_); refine goesL_ (some 10) rfl rfl Tryd.func109 (by kernel_rfl) rfl #[.slice A0 l0.length c0] rfl (by (try simp only [List.map_toArray, List.map_cons, List.map_nil]); first | done | rfl | (simp only [List.length_drop, List.length_take]; rfl)) ?_; (with_reducible refine (jsonparser_decodeSingleUnicodeEscape.calls k _ _ l0 t185 true _ ?side1 ?side2 A2.out).mono ?_); (case side1 => repeat (first | exact HR0.out | (with_reducible refine Kd.C_alloc ?_ _) | (with_reducible refine Kd.C_drewN ?_ _) | (with_reducible refine Kd.C_drew ?_))); (case side2 => exact HC0.out); rintro e w' ⟨rfl, ⟨nd, rfl⟩⟩; refine ⟨_, rfl, ?_⟩) | ((with_reducible refine gate_callee (f := 110) rfl ?_); refine goesL_ (some 16) rfl rfl Tryd.func110 (by kernel_rfl) rfl #[.int .i32 t185] rfl (by (try simp only [List.map_toArray, List.map_cons, List.map_nil]); first | done | rfl | (simp only [List.length_drop, List.length_take]; rfl)) ?_; (with_reducible refine (jsonparser_isUTF16EncodedRune.calls t185 true _ A4.out).mono ?_); rintro e w' ⟨rfl, ⟨nd, rfl⟩⟩; refine ⟨_, rfl, ?_⟩))
        go_ret2
        exact ⟨by first | rfl | (simp; done) | (simp [*]; done), by repeat (first | exact Drawn0.refl _ | apply Drawn0.step)⟩
      · rw [if_neg c6] at H
        have c6b0 : decide (56320 ≤ t185) = false := decide_eq_false c6
        clear c6
        have HC7 := Aside0.mk H
        clear H
        go_enter Tryd.func96, Tryd.ntmps96
        go_upto_region 8 with (first | ((with_reducible refine gate_callee (f := 109) rfl ?_); refine goesL_ (some 10) rfl rfl Tryd.func109 (by kernel_rfl) rfl #[.slice A0 l0.length c0] rfl (by (try simp only [List.map_toArray, List.map_cons, List.map_nil]); first | done | rfl | (simp only [List.length_drop, List.length_take]; rfl)) ?_; (with_reducible refine (jsonparser_decodeSingleUnicodeEscape.calls k _ _ l0 t185 true _ ?side1 ?side2 A2.out).mono ?_); (case side1 => repeat (first | exact HR0.out | (with_reducible refine Kd.C_alloc ?_ _) | (with_reducible refine Kd.C_drewN ?_ _) | (with_reducible refine Kd.C_drew ?_))); (case side2 => exact HC0.out); rintro e w' ⟨rfl, ⟨nd, rfl⟩⟩; refine ⟨_, rfl, ?_⟩) | ((with_reducible refine gate_callee (f := 110) rfl ?_); refine goesL_ (some 16) rfl rfl Tryd.func110 (by kernel_rfl) rfl #[.int .i32 t185] rfl (by (try simp only [List.map_toArray, List.map_cons, List.map_nil]); first | done | rfl | (simp only [List.length_drop, List.length_take]; rfl)) ?_; (with_reducible refine (jsonparser_isUTF16EncodedRune.calls t185 true _ A4.out).mono ?_); rintro e w' ⟨rfl, ⟨nd, rfl⟩⟩; refine ⟨_, rfl, ?_⟩))
        (try simp only [Act.put, List.setIfInBounds_toArray, List.set_cons_zero, List.set_cons_succ])
        go_cut [35] (fun v35 wc => ∃ (kq : Nat) (x35_6 : Bool), v35 = .bool x35_6 ∧ Aside0 (jsonparser_decodeUnicodeEscape.j0 kq l0 t185 x35_6 = some (r1, r2)) ∧ Aside0 (kq ≤ k) ∧ Drawn0 w wc)
        case first =>
          have H := HC7.out
          clear HC7
          by_cases c8 : (l0.length : Int) < 8
          · rw [if_pos c8] at H
            have c8b0 : decide ((l0.length : Int) < 8) = true := decide_eq_true c8
            have c8b1 : decide (l0.length < 8) = true := decide_eq_true (by omega)
            clear c8
            (first | rw [c8b0] | (simp only [i64_w, i32_w]; rw [c8b0]) | rw [c8b1] | skip)
            have H' := Aside0.mk H
            clear H
            go_wp2
            go_meet
            case rel => exact ⟨_, (true), (by first | rfl | (simp; done) | (simp [*]; done)), H', ⟨by first | omega | exact Nat.le_refl _⟩, by repeat (first | exact Drawn0.refl _ | apply Drawn0.step)⟩
          · rw [if_neg c8] at H
            have c8b0 : decide ((l0.length : Int) < 8) = false := decide_eq_false c8
            have c8b1 : decide (l0.length < 8) = false := decide_eq_false (by omega)
            clear c8
            (first | rw [c8b0] | (simp only [i64_w, i32_w]; rw [c8b0]) | rw [c8b1] | skip)
            by_cases c9 : 6 < (l0.length : Int)
            · rw [if_pos c9] at H
              have c9b0 : decide (6 < (l0.length : Int)) = true := decide_eq_true c9
              have c9b1 : decide (6 < l0.length) = true := decide_eq_true (by omega)
              clear c9
              by_cases c10 : (rd l0 6) = 92
              · rw [if_pos c10] at H
                have c10b0 : ((rd l0 6) == 92) = true := beq_iff_eq.mpr c10
                have c10b1 : ((rd l0 6) != 92) = false := bne_eq_false_iff_eq.mpr c10
                clear c10
                by_cases c11 : 7 < (l0.length : Int)
                · rw [if_pos c11] at H
                  have c11b0 : decide (7 < (l0.length : Int)) = true := decide_eq_true c11
                  have c11b1 : decide (7 < l0.length) = true := decide_eq_true (by omega)
                  clear c11
                  have H' := Aside0.mk H
                  clear H
                  have p188 : 0 ≤ (6 : Int) := (by omega)
                  have q188 : 6 < (l0.length : Int) := of_decide_eq_true (by first | (with_reducible assumption) | assumption)
                  obtain ⟨ad188, e188, hx188_0⟩ := Kd.at_int HR0.out 6 p188 q188
                  cases e188
                  (try simp only [show (6 : Int).toNat = 6 from rfl, Nat.reduceMul, Nat.reduceEqDiff, Go.Addr.add, ↓reduceIte] at hx188_0)
                  have qi188 : (6 < l0.length) = True := eq_true (by omega)
                  (try rw [show ((6 : Int)).toNat = 6 from rfl] at hx188_0)
                  replace p188 := eq_true p188
                  replace q188 := eq_true q188
                  have p189 : 0 ≤ (7 : Int) := (by omega)
                  have q189 : 7 < (l0.length : Int) := of_decide_eq_true (by first | (with_reducible assumption) | assumption)
                  obtain ⟨ad189, e189, hx189_0⟩ := Kd.at_int HR0.out 7 p189 q189
                  obtain rfl : ad188 = ad189 := (by injection e189)
                  (try simp only [show (7 : Int).toNat = 7 from rfl, Nat.reduceMul, Nat.reduceEqDiff, Go.Addr.add, ↓reduceIte] at hx189_0)
                  have qi189 : (7 < l0.length) = True := eq_true (by omega)
                  (try rw [show ((7 : Int)).toNat = 7 from rfl] at hx189_0)
                  replace p189 := eq_true p189
                  replace q189 := eq_true q189
                  go_wp2
                  go_meet
                  case rel => exact ⟨_, (((rd l0 7) != 117)), (by first | rfl | (simp; done) | (simp [*]; done)), H', ⟨by first | omega | exact Nat.le_refl _⟩, by repeat (first | exact Drawn0.refl _ | apply Drawn0.step)⟩
                · rw [if_neg c11] at H
                  exact absurd H (by simp)
              · rw [if_neg c10] at H
                have c10b0 : ((rd l0 6) == 92) = false := beq_eq_false_iff_ne.mpr c10
                have c10b1 : ((rd l0 6) != 92) = true := bne_iff_ne.mpr c10
                have H' := Aside0.mk H
                clear H
                have p188 : 0 ≤ (6 : Int) := (by omega)
                have q188 : 6 < (l0.length : Int) := of_decide_eq_true (by first | (with_reducible assumption) | assumption)
                obtain ⟨ad188, e188, hx188_0⟩ := Kd.at_int HR0.out 6 p188 q188
                cases e188
                (try simp only [show (6 : Int).toNat = 6 from rfl, Nat.reduceMul, Nat.reduceEqDiff, Go.Addr.add, ↓reduceIte] at hx188_0)
                have qi188 : (6 < l0.length) = True := eq_true (by omega)
                (try rw [show ((6 : Int)).toNat = 6 from rfl] at hx188_0)
                replace p188 := eq_true p188
                replace q188 := eq_true q188
                go_wp2
                go_meet
                case rel => exact ⟨_, (true), (by first | rfl | (simp; done) | (simp [*]; done)), H', ⟨by first | omega | exact Nat.le_refl _⟩, by repeat (first | exact Drawn0.refl _ | apply Drawn0.step)⟩
            · rw [if_neg c9] at H
              exact absurd H (by simp)
        case rest =>
          clear HC7
          try clear c1
          try clear p1
          try clear q1
          try clear hx1
          try clear qi1
          try clear p2
          try clear c3
          try clear c5
          try clear c6
          try clear c6b0
          try clear c8
          try clear c8b0
          try clear c8b1
          try clear c9
          try clear c9b0
          try clear c9b1
          try clear c10
          try clear c10b0
          try clear c10b1
          try clear c11
          try clear c11b0
          try clear c11b1
          try clear hx188_0
          try clear hx189_0
          try clear p188
          try clear p189
          try clear q188
          try clear q189
          obtain ⟨kq, x35_6, rfl, HA, HJ6, ⟨mc6, rfl⟩⟩ := hcut
          cases kq with
          | zero => exact absurd HA.out (by simp [jsonparser_decodeUnicodeEscape.j0])
          | succ kj6 =>
            have H := HA.out
            clear HA
            simp only [jsonparser_decodeUnicodeEscape.j0] at H
            by_cases c12 : x35_6 = true
            · subst c12
              have H1 : (some (65533, 6)) = some (r1, r2) := by rw [if_pos rfl] at H; exact H
              clear H
              have H := H1
              clear H1
              simp only [Option.some.injEq, Prod.mk.injEq] at H
              obtain ⟨rfl, rfl⟩ := H
              go_wp2
              go_ret2
              exact ⟨by first | rfl | (simp; done) | (simp [*]; done), by repeat (first | exact Drawn0.refl _ | apply Drawn0.step)⟩
            · replace c12 := Bool.eq_false_iff.mpr c12
              subst c12
              have H1 : (if 6 ≤ (l0.length : Int) then ((jsonparser_decodeSingleUnicodeEscape.f kj6 (l0.drop 6)).bind fun bt191 => (if bt191.2 = true then (if bt191.1 < 56320 then (some (65533, 6)) else (if bt191.1 > 57343 then (some (65533, 6)) else ((jsonparser_combineUTF16Surrogates.f t185 bt191.1).bind fun t193 => (some (t193, 12))))) else (some (65533, (-1))))) else (none)) = some (r1, r2) := by rw [if_neg (show ¬ (false = true) by decide)] at H; exact H
              clear H
              have H := H1
              clear H1
              by_cases c13 : 6 ≤ (l0.length : Int)
              · rw [if_pos c13] at H
                have c13b0 := eq_true c13
                have c13b1 : decide (6 ≤ (l0.length : Int)) = true := decide_eq_true c13
                clear c13
                replace H := Option.bind_eq_some_iff.mp H
                obtain ⟨⟨t191, t192⟩, A140, H⟩ := H
                replace H : (if t192 = true then (if t191 < 56320 then (some (65533, 6)) else (if t191 > 57343 then (some (65533, 6)) else ((jsonparser_combineUTF16Surrogates.f t185 t191).bind fun t193 => (some (t193, 12))))) else (some (65533, (-1)))) = some (r1, r2) := H
                have A14 := Aside0.mk A140
                clear A140
                by_cases c15 : t192 = true
                · subst c15
                  have H1 : (if t191 < 56320 then (some (65533, 6)) else (if t191 > 57343 then (some (65533, 6)) else ((jsonparser_combineUTF16Surrogates.f t185 t191).bind fun t193 => (some (t193, 12))))) = some (r1, r2) := by rw [if_pos rfl] at H; exact H
                  clear H
                  have H := H1
                  clear H1
                  by_cases c16 : t191 < 56320
                  · rw [if_pos c16] at H
                    have c16b0 : decide (t191 < 56320) = true := decide_eq_true c16
                    clear c16
                    simp only [Option.some.injEq, Prod.mk.injEq] at H
                    obtain ⟨rfl, rfl⟩ := H
                    obtain ⟨i017, hi017, _, hsz17, _⟩ := info_parts info5
                    obtain ⟨A17, hcut17, hA17, hC17⟩ := print_drop_of (P := Tryd.prog) (Value.int .u8) 0 53 5 .i64 Tryd.underlying53 hi017 hsz17 A0 c0 l0 6 (by omega) (of_decide_eq_true (by first | (with_reducible assumption) | assumption)) HC0.out
                    have HR190 := Aside0.mk (Kd.C_of_reads (h1 := fun _ => rfl) (hA17 _ (Kd.reads_of_C HR0.out)))
                    have HC190 := Aside0.mk hC17
                    clear hA17 hC17 hi017 hsz17
                    go_wp2_with (first | ((with_reducible refine gate_callee (f := 109) rfl ?_); refine goesL_ (some 39) rfl rfl Tryd.func109 (by kernel_rfl) rfl #[.slice A17 (l0.drop 6).length (c0 - 6)] rfl (by (try simp only [List.map_toArray, List.map_cons, List.map_nil]); first | done | (rw [show (l0.drop 6).length = (l0.length - 6) from List.length_drop] <;> rfl) | rfl | (simp only [List.length_drop, List.length_take]; rfl)) ?_; (with_reducible refine (jsonparser_decodeSingleUnicodeEscape.calls kj6 _ _ (l0.drop 6) t191 true _ ?side1 ?side2 A14.out).mono ?_); (case side1 => repeat (first | exact HR190.out | (with_reducible refine Kd.C_alloc ?_ _) | (with_reducible refine Kd.C_drewN ?_ _) | (with_reducible refine Kd.C_drew ?_))); (case side2 => exact HC190.out); rintro e w' ⟨rfl, ⟨nd, rfl⟩⟩; refine ⟨_, rfl, ?_⟩))
                    go_ret2
                    exact ⟨by first | rfl | (simp; done) | (simp [*]; done), by repeat (first | exact Drawn0.refl _ | apply Drawn0.step)⟩
                  · rw [if_neg c16] at H
                    have c16b0 : decide (t191 < 56320) = false := decide_eq_false c16
                    clear c16
                    by_cases c18 : t191 > 57343
                    · rw [if_pos c18] at H
                      have c18b0 : decide (57343 < t191) = true := decide_eq_true c18
                      clear c18
                      simp only [Option.some.injEq, Prod.mk.injEq] at H
                      obtain ⟨rfl, rfl⟩ := H
                      obtain ⟨i019, hi019, _, hsz19, _⟩ := info_parts info5
                      obtain ⟨A19, hcut19, hA19, hC19⟩ := print_drop_of (P := Tryd.prog) (Value.int .u8) 0 53 5 .i64 Tryd.underlying53 hi019 hsz19 A0 c0 l0 6 (by omega) (of_decide_eq_true (by first | (with_reducible assumption) | assumption)) HC0.out
                      have HR190 := Aside0.mk (Kd.C_of_reads (h1 := fun _ => rfl) (hA19 _ (Kd.reads_of_C HR0.out)))
                      have HC190 := Aside0.mk hC19
                      clear hA19 hC19 hi019 hsz19
                      go_wp2_with (first | ((with_reducible refine gate_callee (f := 109) rfl ?_); refine goesL_ (some 39) rfl rfl Tryd.func109 (by kernel_rfl) rfl #[.slice A19 (l0.drop 6).length (c0 - 6)] rfl (by (try simp only [List.map_toArray, List.map_cons, List.map_nil]); first | done | (rw [show (l0.drop 6).length = (l0.length - 6) from List.length_drop] <;> rfl) | rfl | (simp only [List.length_drop, List.length_take]; rfl)) ?_; (with_reducible refine (jsonparser_decodeSingleUnicodeEscape.calls kj6 _ _ (l0.drop 6) t191 true _ ?side1 ?side2 A14.out).mono ?_); (case side1 => repeat (first | exact HR190.out | (with_reducible refine Kd.C_alloc ?_ _) | (with_reducible refine Kd.C_drewN ?_ _) | (with_reducible refine Kd.C_drew ?_))); (case side2 => exact HC190.out); rintro e w' ⟨rfl, ⟨nd, rfl⟩⟩; refine ⟨_, rfl, ?_⟩))
                      go_ret2
                      exact ⟨by first | rfl | (simp; done) | (simp [*]; done), by repeat (first | exact Drawn0.refl _ | apply Drawn0.step)⟩
                    · rw [if_neg c18] at H
                      have c18b0 : decide (57343 < t191) = false := decide_eq_false c18
                      clear c18
                      replace H := Option.bind_eq_some_iff.mp H
                      obtain ⟨t193, A200, H⟩ := H
                      replace H : (some (t193, 12)) = some (r1, r2) := H
                      have A20 := Aside0.mk A200
                      clear A200
                      simp only [Option.some.injEq, Prod.mk.injEq] at H
                      obtain ⟨rfl, rfl⟩ := H
                      obtain ⟨i021, hi021, _, hsz21, _⟩ := info_parts info5
                      obtain ⟨A21, hcut21, hA21, hC21⟩ := print_drop_of (P := Tryd.prog) (Value.int .u8) 0 53 5 .i64 Tryd.underlying53 hi021 hsz21 A0 c0 l0 6 (by omega) (of_decide_eq_true (by first | (with_reducible assumption) | assumption)) HC0.out
                      have HR190 := Aside0.mk (Kd.C_of_reads (h1 := fun _ => rfl) (hA21 _ (Kd.reads_of_C HR0.out)))
                      have HC190 := Aside0.mk hC21
                      clear hA21 hC21 hi021 hsz21
                      go_wp2_with (first | ((with_reducible refine gate_callee (f := 109) rfl ?_); refine goesL_ (some 39) rfl rfl Tryd.func109 (by kernel_rfl) rfl #[.slice A21 (l0.drop 6).length (c0 - 6)] rfl (by (try simp only [List.map_toArray, List.map_cons, List.map_nil]); first | done | (rw [show (l0.drop 6).length = (l0.length - 6) from List.length_drop] <;> rfl) | rfl | (simp only [List.length_drop, List.length_take]; rfl)) ?_; (with_reducible refine (jsonparser_decodeSingleUnicodeEscape.calls kj6 _ _ (l0.drop 6) t191 true _ ?side1 ?side2 A14.out).mono ?_); (case side1 => repeat (first | exact HR190.out | (with_reducible refine Kd.C_alloc ?_ _) | (with_reducible refine Kd.C_drewN ?_ _) | (with_reducible refine Kd.C_drew ?_))); (case side2 => exact HC190.out); rintro e w' ⟨rfl, ⟨nd, rfl⟩⟩; refine ⟨_, rfl, ?_⟩) | ((with_reducible refine gate_callee (f := 111) rfl ?_); refine goesL_ (some 52) rfl rfl Tryd.func111 (by kernel_rfl) rfl #[.int .i32 t185, .int .i32 t191] rfl (by (try simp only [List.map_toArray, List.map_cons, List.map_nil]); first | done | rfl | (simp only [List.length_drop, List.length_take]; rfl)) ?_; (with_reducible refine (jsonparser_combineUTF16Surrogates.calls t185 t191 t193 _ A20.out).mono ?_); rintro e w' ⟨rfl, ⟨nd, rfl⟩⟩; refine ⟨_, rfl, ?_⟩))
                      go_ret2
                      exact ⟨by first | rfl | (simp; done) | (simp [*]; done), by repeat (first | exact Drawn0.refl _ | apply Drawn0.step)⟩
                · replace c15 := Bool.eq_false_iff.mpr c15
                  subst c15
                  have H1 : (some (65533, (-1))) = some (r1, r2) := by rw [if_neg (show ¬ (false = true) by decide)] at H; exact H
                  clear H
                  have H := H1
                  clear H1
                  simp only [Option.some.injEq, Prod.mk.injEq] at H
                  obtain ⟨rfl, rfl⟩ := H
                  obtain ⟨i022, hi022, _, hsz22, _⟩ := info_parts info5
                  obtain ⟨A22, hcut22, hA22, hC22⟩ := print_drop_of (P := Tryd.prog) (Value.int .u8) 0 53 5 .i64 Tryd.underlying53 hi022 hsz22 A0 c0 l0 6 (by omega) (of_decide_eq_true (by first | (with_reducible assumption) | assumption)) HC0.out
                  have HR190 := Aside0.mk (Kd.C_of_reads (h1 := fun _ => rfl) (hA22 _ (Kd.reads_of_C HR0.out)))
                  have HC190 := Aside0.mk hC22
                  clear hA22 hC22 hi022 hsz22
                  go_wp2_with (first | ((with_reducible refine gate_callee (f := 109) rfl ?_); refine goesL_ (some 39) rfl rfl Tryd.func109 (by kernel_rfl) rfl #[.slice A22 (l0.drop 6).length (c0 - 6)] rfl (by (try simp only [List.map_toArray, List.map_cons, List.map_nil]); first | done | (rw [show (l0.drop 6).length = (l0.length - 6) from List.length_drop] <;> rfl) | rfl | (simp only [List.length_drop, List.length_take]; rfl)) ?_; (with_reducible refine (jsonparser_decodeSingleUnicodeEscape.calls kj6 _ _ (l0.drop 6) t191 false _ ?side1 ?side2 A14.out).mono ?_); (case side1 => repeat (first | exact HR190.out | (with_reducible refine Kd.C_alloc ?_ _) | (with_reducible refine Kd.C_drewN ?_ _) | (with_reducible refine Kd.C_drew ?_))); (case side2 => exact HC190.out); rintro e w' ⟨rfl, ⟨nd, rfl⟩⟩; refine ⟨_, rfl, ?_⟩))
                  go_ret2
                  exact ⟨by first | rfl | (simp; done) | (simp [*]; done), by repeat (first | exact Drawn0.refl _ | apply Drawn0.step)⟩
              · rw [if_neg c13] at H
                exact absurd H (by simp)
    · replace c5 := Bool.eq_false_iff.mpr c5
      subst c5
      have H1 : (some (t185, 6)) = some (r1, r2) := by rw [if_neg (show ¬ (false = true) by decide)] at H; exact H
      clear H
      have H := H1
      clear H1
      simp only [Option.some.injEq, Prod.mk.injEq] at H
      obtain ⟨rfl, rfl⟩ := H
      go_enter Tryd.func96, Tryd.ntmps96
      go_wp2_with (first | ((with_reducible refine gate_callee (f := 109) rfl ?_); refine goesL_ (some 10) rfl rfl Tryd.func109 (by kernel_rfl) rfl #[.slice A0 l0.length c0] rfl (by (try simp only [List.map_toArray, List.map_cons, List.map_nil]); first | done | rfl | (simp only [List.length_drop, List.length_take]; rfl)) ?_; (with_reducible refine (jsonparser_decodeSingleUnicodeEscape.calls k _ _ l0 t185 true _ ?side1 ?side2 A2.out).mono ?_); (case side1 => repeat (first | exact HR0.out | (with_reducible refine Kd.C_alloc ?_ _) | (with_reducible refine Kd.C_drewN ?_ _) | (with_reducible refine Kd.C_drew ?_))); (case side2 => exact HC0.out); rintro e w' ⟨rfl, ⟨nd, rfl⟩⟩; refine ⟨_, rfl, ?_⟩) | ((with_reducible refine gate_callee (f := 110) rfl ?_); refine goesL_ (some 16) rfl rfl Tryd.func110 (by kernel_rfl) rfl #[.int .i32 t185] rfl (by (try simp only [List.map_toArray, List.map_cons, List.map_nil]); first | done | rfl | (simp only [List.length_drop, List.length_take]; rfl)) ?_; (with_reducible refine (jsonparser_isUTF16EncodedRune.calls t185 false _ A4.out).mono ?_); rintro e w' ⟨rfl, ⟨nd, rfl⟩⟩; refine ⟨_, rfl, ?_⟩))
      go_ret2
      exact ⟨by first | rfl | (simp; done) | (simp [*]; done), by repeat (first | exact Drawn0.refl _ | apply Drawn0.step)⟩
  · replace c3 := Bool.eq_false_iff.mpr c3
    subst c3
    have H1 : (some (65533, (-1))) = some (r1, r2) := by rw [if_neg (show ¬ (false = true) by decide)] at H; exact H
    clear H
    have H := H1
    clear H1
    simp only [Option.some.injEq, Prod.mk.injEq] at H
    obtain ⟨rfl, rfl⟩ := H
    go_enter Tryd.func96, Tryd.ntmps96
    go_wp2_with (first | ((with_reducible refine gate_callee (f := 109) rfl ?_); refine goesL_ (some 10) rfl rfl Tryd.func109 (by kernel_rfl) rfl #[.slice A0 l0.length c0] rfl (by (try simp only [List.map_toArray, List.map_cons, List.map_nil]); first | done | rfl | (simp only [List.length_drop, List.length_take]; rfl)) ?_; (with_reducible refine (jsonparser_decodeSingleUnicodeEscape.calls k _ _ l0 t185 false _ ?side1 ?side2 A2.out).mono ?_); (case side1 => repeat (first | exact HR0.out | (with_reducible refine Kd.C_alloc ?_ _) | (with_reducible refine Kd.C_drewN ?_ _) | (with_reducible refine Kd.C_drew ?_))); (case side2 => exact HC0.out); rintro e w' ⟨rfl, ⟨nd, rfl⟩⟩; refine ⟨_, rfl, ?_⟩))
    go_ret2
    exact ⟨by first | rfl | (simp; done) | (simp [*]; done), by repeat (first | exact Drawn0.refl _ | apply Drawn0.step)⟩

end Go.Proofs.YtfpbbnllaogclaaDoor.PJ
