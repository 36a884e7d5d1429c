-- Written by a program of this session out of the translation (a changed copy of the kit's print); Lean checks it.
import Derived.Test.YtfpbbnllaogclaaDoorPGx0
import Derived.Test.YtfpbbnllaogclaaDoorPGx1
import Derived.Test.YtfpbbnllaogclaaDoorPGx2
import Derived.Test.YtfpbbnllaogclaaDoorPGx9
import Derived.Test.YtfpbbnllaogclaaDoorPGx10
import Derived.Test.YtfpbbnllaogclaaDoorPGx11
import Derived.Test.YtfpbbnllaogclaaDoorPGx12
namespace Go.Proofs.YtfpbbnllaogclaaDoor.PG
open Go.RowKit Go.Proofs.YtfpbbnllaogclaaDoorW.PrintWords Go.Proofs.YtfpbbnllaogclaaDoorW.PrintLast Go.Proofs.YtfpbbnllaogclaaDoorW.PrintMore
attribute [local go_sem] max2_int min2_int max_two min_two max_three min_three max_four min_four   -- for this text's walks alone
set_option linter.unusedVariables false
set_option linter.unusedSimpArgs false

/-! ### fastjson_validateString: function 80 -/
mutual
def fastjson_validateString.j0 : Nat → ByteArray → Int → Bool → Option (ByteArray × ByteArray × Option Int)
  | 0, _, _, _ => none
  | k + 1, x0, x5, x24 => if x24 = true then (if 0 ≤ x5 then (if x5 ≤ (x0.size : Int) then (if 0 ≤ (wrap64 (x5 + 1)) then (if (wrap64 (x5 + 1)) ≤ (x0.size : Int) then (some (x0.extract 0 (x5 : Int).toNat, x0.extract ((wrap64 (x5 + 1)) : Int).toNat x0.size, none)) else (none)) else (none)) else (none)) else (none)) else ((fastjson_parseRawString.f k x0).bind fun bt121 => (if bt121.2.2.isNone = true then (fastjson_validateString.l0 k bt121.1 bt121.2.1) else (some (bt121.1, bt121.2.1, some (bt121.2.2.getD 0)))))
def fastjson_validateString.l0 : Nat → ByteArray → ByteArray → Option (ByteArray × ByteArray × Option Int)
  | 0, _, _ => none
  | k + 1, x6, x7 => (strings_IndexByte.f x6 92).bind fun t125 => (if t125 < 0 then (some (x6, x7, none)) else (if (wrap64 (t125 + 1)) ≥ (x6.size : Int) then ((errors_New.f (⟨#[66, 85, 71, 58, 32, 112, 97, 114, 115, 101, 82, 97, 119, 83, 116, 114, 105, 110, 103, 32, 114, 101, 116, 117, 114, 110, 101, 100, 32, 105, 110, 118, 97, 108, 105, 100, 32, 115, 116, 114, 105, 110, 103, 32, 119, 105, 116, 104, 32, 116, 114, 97, 105, 108, 105, 110, 103, 32, 98, 97, 99, 107, 115, 108, 97, 115, 104]⟩ : ByteArray)).bind fun t126 => (some (x6, x7, t126))) else (if 0 ≤ (wrap64 (t125 + 1)) then (if (wrap64 (t125 + 1)) < (x6.size : Int) then (if 0 ≤ (wrap64 ((wrap64 (t125 + 1)) + 1)) then (if (wrap64 ((wrap64 (t125 + 1)) + 1)) ≤ (x6.size : Int) then (if (bt x6 (wrap64 (t125 + 1))) = 34 then (fastjson_validateString.j2 k (x6.extract ((wrap64 ((wrap64 (t125 + 1)) + 1)) : Int).toNat x6.size) x7 (bt x6 (wrap64 (t125 + 1))) ((bt x6 (wrap64 (t125 + 1))) == 34)) else (if (bt x6 (wrap64 (t125 + 1))) = 92 then (fastjson_validateString.j2 k (x6.extract ((wrap64 ((wrap64 (t125 + 1)) + 1)) : Int).toNat x6.size) x7 (bt x6 (wrap64 (t125 + 1))) ((bt x6 (wrap64 (t125 + 1))) == 92)) else (if (bt x6 (wrap64 (t125 + 1))) = 47 then (fastjson_validateString.j2 k (x6.extract ((wrap64 ((wrap64 (t125 + 1)) + 1)) : Int).toNat x6.size) x7 (bt x6 (wrap64 (t125 + 1))) ((bt x6 (wrap64 (t125 + 1))) == 47)) else (if (bt x6 (wrap64 (t125 + 1))) = 98 then (fastjson_validateString.j2 k (x6.extract ((wrap64 ((wrap64 (t125 + 1)) + 1)) : Int).toNat x6.size) x7 (bt x6 (wrap64 (t125 + 1))) ((bt x6 (wrap64 (t125 + 1))) == 98)) else (if (bt x6 (wrap64 (t125 + 1))) = 102 then (fastjson_validateString.j2 k (x6.extract ((wrap64 ((wrap64 (t125 + 1)) + 1)) : Int).toNat x6.size) x7 (bt x6 (wrap64 (t125 + 1))) ((bt x6 (wrap64 (t125 + 1))) == 102)) else (if (bt x6 (wrap64 (t125 + 1))) = 110 then (fastjson_validateString.j2 k (x6.extract ((wrap64 ((wrap64 (t125 + 1)) + 1)) : Int).toNat x6.size) x7 (bt x6 (wrap64 (t125 + 1))) ((bt x6 (wrap64 (t125 + 1))) == 110)) else (if (bt x6 (wrap64 (t125 + 1))) = 114 then (fastjson_validateString.j2 k (x6.extract ((wrap64 ((wrap64 (t125 + 1)) + 1)) : Int).toNat x6.size) x7 (bt x6 (wrap64 (t125 + 1))) ((bt x6 (wrap64 (t125 + 1))) == 114)) else (fastjson_validateString.j2 k (x6.extract ((wrap64 ((wrap64 (t125 + 1)) + 1)) : Int).toNat x6.size) x7 (bt x6 (wrap64 (t125 + 1))) ((bt x6 (wrap64 (t125 + 1))) == 116))))))))) else (none)) else (none)) else (none)) else (none))))
def fastjson_validateString.j2 : Nat → ByteArray → ByteArray → Int → Bool → Option (ByteArray × ByteArray × Option Int)
  | 0, _, _, _, _ => none
  | k + 1, x6, x7, x65, x69 => if x69 = true then (fastjson_validateString.l0 k x6 x7) else (if x65 = 117 then (if (x6.size : Int) < 4 then ((errors_New.f (⟨#[116, 111, 111, 32, 115, 104, 111, 114, 116, 32, 101, 115, 99, 97, 112, 101, 32, 115, 101, 113, 117, 101, 110, 99, 101, 58, 32, 92, 117]⟩ : ByteArray)).bind fun t127 => (some (x6, x7, t127))) else (if 0 ≤ 4 then (if 4 ≤ (x6.size : Int) then ((strconv_ParseUint.f (x6.extract 0 4) 16 16).bind fun bt128 => (if bt128.2.isNone = true then (fastjson_validateString.l0 k (x6.extract 4 x6.size) x7) else ((errors_New.f (⟨#[105, 110, 118, 97, 108, 105, 100, 32, 101, 115, 99, 97, 112, 101, 32, 115, 101, 113, 117, 101, 110, 99, 101, 32, 92, 117]⟩ : ByteArray)).bind fun t131 => (some (x6, x7, t131))))) else (none)) else (none))) else ((errors_New.f (⟨#[117, 110, 107, 110, 111, 119, 110, 32, 101, 115, 99, 97, 112, 101, 32, 115, 101, 113, 117, 101, 110, 99, 101]⟩ : ByteArray)).bind fun t132 => (some (x6, x7, t132))))
end
def fastjson_validateString.f (k : Nat) (a0 : ByteArray) : Option (ByteArray × ByteArray × Option Int) := (strings_IndexByte.f a0 34).bind fun t119 => (if t119 ≥ 0 then (if 0 ≤ t119 then (if t119 ≤ (a0.size : Int) then ((strings_IndexByte.f (a0.extract 0 (t119 : Int).toNat) 92).bind fun t120 => (fastjson_validateString.j0 k a0 t119 (decide (t120 < 0)))) else (none)) else (none)) else (fastjson_validateString.j0 k a0 t119 false))
theorem fastjson_validateString.mono_l : ∀ k, (∀ y0 y1 y2, LeO (fastjson_validateString.j0 k y0 y1 y2) (fastjson_validateString.j0 (k + 1) y0 y1 y2)) ∧ (∀ y0 y1, LeO (fastjson_validateString.l0 k y0 y1) (fastjson_validateString.l0 (k + 1) y0 y1)) ∧ (∀ y0 y1 y2 y3, LeO (fastjson_validateString.j2 k y0 y1 y2 y3) (fastjson_validateString.j2 (k + 1) y0 y1 y2 y3))
  | 0 => ⟨fun _ _ _ r h => by simp [fastjson_validateString.j0] at h, fun _ _ r h => by simp [fastjson_validateString.l0] at h, fun _ _ _ _ r h => by simp [fastjson_validateString.j2] at h⟩
  | k + 1 => by
    obtain ⟨ih0, ih1, ih2⟩ := fastjson_validateString.mono_l k
    refine ⟨?_, ?_, ?_⟩
    · intro y0 y1 y2
      unfold fastjson_validateString.j0
      repeat' first
      | (with_reducible exact ih0 _ _ _)
      | (with_reducible exact ih1 _ _)
      | (with_reducible exact ih2 _ _ _ _)
      | (with_reducible exact fastjson_parseRawString.mono _ _)
      | (with_reducible exact LeO.refl _)
      | (with_reducible exact LeO.none _)
      | (with_reducible refine LeO.ite ?_ ?_)
      | (with_reducible refine LeO.bind ?_ (fun _ => ?_))
      | exact ih0 _ _ _
      | exact ih1 _ _
      | exact ih2 _ _ _ _
      | exact fastjson_parseRawString.mono _ _
      | exact LeO.none _
      | refine LeO.ite ?_ ?_
      | refine LeO.bind ?_ (fun _ => ?_)
    · intro y0 y1
      unfold fastjson_validateString.l0
      repeat' first
      | (with_reducible exact ih0 _ _ _)
      | (with_reducible exact ih1 _ _)
      | (with_reducible exact ih2 _ _ _ _)
      | (with_reducible exact fastjson_parseRawString.mono _ _)
      | (with_reducible exact LeO.refl _)
      | (with_reducible exact LeO.none _)
      | (with_reducible refine LeO.ite ?_ ?_)
      | (with_reducible refine LeO.bind ?_ (fun _ => ?_))
      | exact ih0 _ _ _
      | exact ih1 _ _
      | exact ih2 _ _ _ _
      | exact fastjson_parseRawString.mono _ _
      | exact LeO.none _
      | refine LeO.ite ?_ ?_
      | refine LeO.bind ?_ (fun _ => ?_)
    · intro y0 y1 y2 y3
      unfold fastjson_validateString.j2
      repeat' first
      | (with_reducible exact ih0 _ _ _)
      | (with_reducible exact ih1 _ _)
      | (with_reducible exact ih2 _ _ _ _)
      | (with_reducible exact fastjson_parseRawString.mono _ _)
      | (with_reducible exact LeO.refl _)
      | (with_reducible exact LeO.none _)
      | (with_reducible refine LeO.ite ?_ ?_)
      | (with_reducible refine LeO.bind ?_ (fun _ => ?_))
      | exact ih0 _ _ _
      | exact ih1 _ _
      | exact ih2 _ _ _ _
      | exact fastjson_parseRawString.mono _ _
      | exact LeO.none _
      | refine LeO.ite ?_ ?_
      | refine LeO.bind ?_ (fun _ => ?_)
theorem fastjson_validateString.mono : ∀ a0 k, LeO (fastjson_validateString.f k a0) (fastjson_validateString.f (k + 1) a0) := by
  intro a0 k
  obtain ⟨ih0, ih1, ih2⟩ := fastjson_validateString.mono_l k
  unfold fastjson_validateString.f
  repeat' first
      | (with_reducible exact ih0 _ _ _)
      | (with_reducible exact ih1 _ _)
      | (with_reducible exact ih2 _ _ _ _)
      | (with_reducible exact fastjson_parseRawString.mono _ _)
      | (with_reducible exact LeO.refl _)
      | (with_reducible exact LeO.none _)
      | (with_reducible refine LeO.ite ?_ ?_)
      | (with_reducible refine LeO.bind ?_ (fun _ => ?_))
      | exact ih0 _ _ _
      | exact ih1 _ _
      | exact ih2 _ _ _ _
      | exact fastjson_parseRawString.mono _ _
      | exact LeO.none _
      | refine LeO.ite ?_ ?_
      | refine LeO.bind ?_ (fun _ => ?_)
set_option maxHeartbeats 8000000 in
set_option maxRecDepth 100000 in
theorem fastjson_validateString.calls (k : Nat) (a0 : ByteArray) (r1 : ByteArray) (r2 : ByteArray) (r3 : Option Int) (w : World) (hT6 : Kd.C Kd.errk w (some ⟨6, 0, none⟩) tabG6.length tabG6) (hT7 : Kd.C Kd.errk w (some ⟨7, 0, none⟩) tabG7.length tabG7) (h : fastjson_validateString.f k a0 = some (r1, r2, r3)) :
    Calls Tryd.prog 80 #[.string a0] w fun e w' => ∃ (et2_ : Nat) (ep2_ : Value), e = .returned (.tuple #[.string r1, .string r2, errX et2_ ep2_ r3]) ∧ Below w.heap.size w w' := by
  have hu73 := Tryd.underlying73
  have HRG6 := Aside0.mk hT6
  clear hT6
  have HRG7 := Aside0.mk hT7
  clear hT7
  have HB := Aside0.mk (Below.refl w.heap.size w)
  have H : ((strings_IndexByte.f a0 34).bind fun t119 => (if t119 ≥ 0 then (if 0 ≤ t119 then (if t119 ≤ (a0.size : Int) then ((strings_IndexByte.f (a0.extract 0 (t119 : Int).toNat) 92).bind fun t120 => (fastjson_validateString.j0 k a0 t119 (decide (t120 < 0)))) else (none)) else (none)) else (fastjson_validateString.j0 k a0 t119 false))) = some (r1, r2, r3) := h
  clear h
  replace H := Option.bind_eq_some_iff.mp H
  obtain ⟨t119, A20, H⟩ := H
  replace H : (if t119 ≥ 0 then (if 0 ≤ t119 then (if t119 ≤ (a0.size : Int) then ((strings_IndexByte.f (a0.extract 0 (t119 : Int).toNat) 92).bind fun t120 => (fastjson_validateString.j0 k a0 t119 (decide (t120 < 0)))) else (none)) else (none)) else (fastjson_validateString.j0 k a0 t119 false)) = some (r1, r2, r3) := H
  have A2 := Aside0.mk A20
  clear A20
  have HC3 := Aside0.mk H
  clear H
  go_enter Tryd.func80, Tryd.ntmps80
  go_upto_region 2 with (first | (go_at_call 98; (with_reducible refine (strings_IndexByte.calls a0 34 t119 _ A2.out).mono ?_); rintro e w' ⟨rfl, ⟨nd, rfl⟩⟩; (try first | exact ⟨rfl, _, World.drewN_drewN _ _ _⟩ | exact ⟨rfl, _, Eq.trans (World.drewN_drewN _ _ _) (congrArg (World.drewN _) (Nat.add_assoc _ _ _))⟩)))
  repeat (go_quiet (first | (go_at_call 98; (with_reducible refine (strings_IndexByte.calls a0 34 t119 _ A2.out).mono ?_); rintro e w' ⟨rfl, ⟨nd, rfl⟩⟩; (try first | exact ⟨rfl, _, World.drewN_drewN _ _ _⟩ | exact ⟨rfl, _, Eq.trans (World.drewN_drewN _ _ _) (congrArg (World.drewN _) (Nat.add_assoc _ _ _))⟩))); go_upto_region 2 with (first | (go_at_call 98; (with_reducible refine (strings_IndexByte.calls a0 34 t119 _ A2.out).mono ?_); rintro e w' ⟨rfl, ⟨nd, rfl⟩⟩; (try first | exact ⟨rfl, _, World.drewN_drewN _ _ _⟩ | exact ⟨rfl, _, Eq.trans (World.drewN_drewN _ _ _) (congrArg (World.drewN _) (Nat.add_assoc _ _ _))⟩))))
  (try simp only [Act.put, List.setIfInBounds_toArray, List.set_cons_zero, List.set_cons_succ])
  go_cut [24] (fun v24 wc => ∃ (kq : Nat) (x24_2 : Bool), v24 = .bool x24_2 ∧ Aside0 (fastjson_validateString.j0 kq a0 t119 x24_2 = some (r1, r2, r3)) ∧ Aside0 (kq ≤ k) ∧ Aside0 (Below w.heap.size w wc))
  case first =>
    have H := HC3.out
    clear HC3
    by_cases c4 : t119 ≥ 0
    · rw [if_pos c4] at H
      have c4b0 : decide (0 ≤ t119) = true := decide_eq_true c4
      clear c4
      (first | rw [c4b0] | (simp only [i64_w, i32_w]; rw [c4b0]) | rw [c4b1] | skip)
      by_cases c5 : 0 ≤ t119
      · rw [if_pos c5] at H
        have c5b0 := eq_true c5
        have c5b1 : decide (0 ≤ t119) = true := decide_eq_true c5
        clear c5
        by_cases c6 : t119 ≤ (a0.size : Int)
        · rw [if_pos c6] at H
          have c6b0 := eq_true c6
          have c6b1 : decide (t119 ≤ (a0.size : Int)) = true := decide_eq_true c6
          clear c6
          obtain ⟨js7, hjs7⟩ : ∃ z_ : ByteArray, (a0.extract 0 (t119 : Int).toNat) = z_ := ⟨_, rfl⟩
          replace H : ((strings_IndexByte.f js7 92).bind fun t120 => (fastjson_validateString.j0 k a0 t119 (decide (t120 < 0)))) = some (r1, r2, r3) := by first | (rw [hjs7] at H; exact H) | (simp only [hjs7] at H ⊢; exact H)
          replace H := Option.bind_eq_some_iff.mp H
          obtain ⟨t120, A80, H⟩ := H
          replace H : (fastjson_validateString.j0 k a0 t119 (decide (t120 < 0))) = some (r1, r2, r3) := H
          have A8 := Aside0.mk A80
          clear A80
          have H' := Aside0.mk H
          clear H
          try have hcs9 := fun W_ : World => run_slice_string_h (P := Tryd.prog) W_ 9 a0 Tryd.underlying9 .i64 t119 (of_decide_eq_true (by first | (with_reducible assumption) | assumption)) (of_decide_eq_true (by first | (with_reducible assumption) | assumption))
          (try simp only [hjs7] at hcs9)
          go_wp2_with (first | (go_at_call 98; (with_reducible refine (strings_IndexByte.calls js7 92 t120 _ A8.out).mono ?_); rintro e w' ⟨rfl, ⟨nd, rfl⟩⟩; (try first | exact ⟨rfl, _, World.drewN_drewN _ _ _⟩ | exact ⟨rfl, _, Eq.trans (World.drewN_drewN _ _ _) (congrArg (World.drewN _) (Nat.add_assoc _ _ _))⟩)))
          repeat (go_quiet (first | (go_at_call 98; (with_reducible refine (strings_IndexByte.calls js7 92 t120 _ A8.out).mono ?_); rintro e w' ⟨rfl, ⟨nd, rfl⟩⟩; (try first | exact ⟨rfl, _, World.drewN_drewN _ _ _⟩ | exact ⟨rfl, _, Eq.trans (World.drewN_drewN _ _ _) (congrArg (World.drewN _) (Nat.add_assoc _ _ _))⟩))); try go_wp2_with (first | (go_at_call 98; (with_reducible refine (strings_IndexByte.calls js7 92 t120 _ A8.out).mono ?_); rintro e w' ⟨rfl, ⟨nd, rfl⟩⟩; (try first | exact ⟨rfl, _, World.drewN_drewN _ _ _⟩ | exact ⟨rfl, _, Eq.trans (World.drewN_drewN _ _ _) (congrArg (World.drewN _) (Nat.add_assoc _ _ _))⟩))))
          go_meet
          case rel => exact ⟨_, (decide (t120 < 0)), (by first | rfl | (simp; done) | (simp [*]; done)), H', ⟨by first | omega | exact Nat.le_refl _⟩, ⟨by repeat (first | (with_reducible first | exact HB.out | apply below_alloc | apply pw_below_drewN | apply below_drew1) | exact HB.out)⟩⟩
        · rw [if_neg c6] at H
          exact absurd H (by simp)
      · rw [if_neg c5] at H
        exact absurd H (by simp)
    · rw [if_neg c4] at H
      have c4b0 : decide (0 ≤ t119) = false := decide_eq_false c4
      clear c4
      (first | rw [c4b0] | (simp only [i64_w, i32_w]; rw [c4b0]) | rw [c4b1] | skip)
      have H' := Aside0.mk H
      clear H
      go_wp2
      repeat (go_quiet (fail); try go_wp2)
      go_meet
      case rel => exact ⟨_, (false), (by first | rfl | (simp; done) | (simp [*]; done)), H', ⟨by first | omega | exact Nat.le_refl _⟩, ⟨by repeat (first | (with_reducible first | exact HB.out | apply below_alloc | apply pw_below_drewN | apply below_drew1) | exact HB.out)⟩⟩
  case rest =>
    clear HC3
    try clear p2
    try clear c4
    try clear c4b0
    try clear c4b1
    try clear c5
    try clear c5b0
    try clear c5b1
    try clear c6
    try clear c6b0
    try clear c6b1
    try clear c8
    obtain ⟨kq, x24_2, rfl, HA, HJ2, HB⟩ := hcut
    cases kq with
    | zero => exact absurd HA.out (by simp [fastjson_validateString.j0])
    | succ kj2 =>
      have H := HA.out
      clear HA
      simp only [fastjson_validateString.j0] at H
      by_cases c10 : x24_2 = true
      · subst c10
        have H1 : (if 0 ≤ t119 then (if t119 ≤ (a0.size : Int) then (if 0 ≤ (wrap64 (t119 + 1)) then (if (wrap64 (t119 + 1)) ≤ (a0.size : Int) then (some (a0.extract 0 (t119 : Int).toNat, a0.extract ((wrap64 (t119 + 1)) : Int).toNat a0.size, none)) else (none)) else (none)) else (none)) else (none)) = some (r1, r2, r3) := by rw [if_pos rfl] at H; exact H
        clear H
        have H := H1
        clear H1
        by_cases c11 : 0 ≤ t119
        · rw [if_pos c11] at H
          have c11b0 := eq_true c11
          have c11b1 : decide (0 ≤ t119) = true := decide_eq_true c11
          clear c11
          by_cases c12 : t119 ≤ (a0.size : Int)
          · rw [if_pos c12] at H
            have c12b0 := eq_true c12
            have c12b1 : decide (t119 ≤ (a0.size : Int)) = true := decide_eq_true c12
            clear c12
            obtain ⟨ji13, hji13⟩ : ∃ j_ : Int, (wrap64 (t119 + 1)) = j_ := ⟨_, rfl⟩
            replace H : (if 0 ≤ (ji13) then (if (ji13) ≤ (a0.size : Int) then (some (a0.extract 0 (t119 : Int).toNat, a0.extract ((ji13) : Int).toNat a0.size, none)) else (none)) else (none)) = some (r1, r2, r3) := by first | (rw [hji13] at H; exact H) | (simp only [hji13] at H ⊢; exact H)
            have hji13w : (IntKind.i64.wrap (t119 + 1)) = ji13 := (i64_w _).trans hji13
            by_cases c14 : 0 ≤ (ji13)
            · rw [if_pos c14] at H
              have c14b0 := eq_true c14
              have c14b1 : decide (0 ≤ (ji13)) = true := decide_eq_true c14
              clear c14
              by_cases c15 : (ji13) ≤ (a0.size : Int)
              · rw [if_pos c15] at H
                have c15b0 := eq_true c15
                have c15b1 : decide ((ji13) ≤ (a0.size : Int)) = true := decide_eq_true c15
                clear c15
                simp only [Option.some.injEq, Prod.mk.injEq] at H
                obtain ⟨rfl, rfl, rfl⟩ := H
                try have hcs16 := fun W_ : World => run_slice_string_h (P := Tryd.prog) W_ 9 a0 Tryd.underlying9 .i64 t119 (of_decide_eq_true (by first | (with_reducible assumption) | assumption)) (of_decide_eq_true (by first | (with_reducible assumption) | assumption))
                try have hcs17 := fun W_ : World => run_slice_string_l (P := Tryd.prog) W_ 9 a0 Tryd.underlying9 .i64 (ji13) (of_decide_eq_true (by first | (with_reducible assumption) | assumption)) (of_decide_eq_true (by first | (with_reducible assumption) | assumption))
                go_wp2
                repeat (go_quiet (fail); try go_wp2)
                go_ret3
                exact ⟨0, .nilIface, by first | rfl | (simp [errW_none, errW_some] <;> rfl) | (simp only [← hji13]; first | rfl | (simp [errW_none, errW_some] <;> rfl)) | (simp [*, errW_none, errW_some] <;> rfl), by repeat (first | (with_reducible first | exact HB.out | apply below_alloc | apply pw_below_drewN | apply below_drew1) | exact HB.out)⟩
              · rw [if_neg c15] at H
                exact absurd H (by simp)
            · rw [if_neg c14] at H
              exact absurd H (by simp)
          · rw [if_neg c12] at H
            exact absurd H (by simp)
        · rw [if_neg c11] at H
          exact absurd H (by simp)
      · replace c10 := Bool.eq_false_iff.mpr c10
        subst c10
        have H1 : ((fastjson_parseRawString.f kj2 a0).bind fun bt121 => (if bt121.2.2.isNone = true then (fastjson_validateString.l0 kj2 bt121.1 bt121.2.1) else (some (bt121.1, bt121.2.1, some (bt121.2.2.getD 0))))) = some (r1, r2, r3) := by rw [if_neg (show ¬ (false = true) by decide)] at H; exact H
        clear H
        have H := H1
        clear H1
        replace H := Option.bind_eq_some_iff.mp H
        obtain ⟨⟨t121, t122, t123⟩, A180, H⟩ := H
        replace H : (if t123.isNone = true then (fastjson_validateString.l0 kj2 t121 t122) else (some (t121, t122, some (t123.getD 0)))) = some (r1, r2, r3) := H
        have A18 := Aside0.mk A180
        clear A180
        rcases t123 with _ | q124
        · have H1 : (fastjson_validateString.l0 kj2 t121 t122) = some (r1, r2, r3) := by rw [if_pos (show (none : Option Int).isNone = true by rfl)] at H; exact H
          clear H
          have H := H1
          clear H1
          try simp only [errW_none, errW_some, errX_none, errX_some]
          have H' := Aside0.mk H
          clear H
          go_wp2_with (first | (go_at_call 99; (with_reducible refine (fastjson_parseRawString.calls kj2 a0 t121 t122 none _ A18.out).mono ?_); rintro e w19 ⟨et_A18_2, ep_A18_2, rfl, hb⟩; have n0_ := Aside0.mk (below_step (by repeat (first | (with_reducible first | exact HB.out | apply below_alloc | apply pw_below_drewN | apply below_drew1) | exact HB.out)) hb); clear HB; have HB := n0_; clear n0_; (try clear hb); (try clear hb2); (try clear hk); (try clear hi); (try simp only [errW_none, errW_some, errX_none, errX_some])))
          repeat (go_quiet (first | (go_at_call 99; (with_reducible refine (fastjson_parseRawString.calls kj2 a0 t121 t122 none _ A18.out).mono ?_); rintro e w19 ⟨et_A18_2, ep_A18_2, rfl, hb⟩; have n0_ := Aside0.mk (below_step (by repeat (first | (with_reducible first | exact HB.out | apply below_alloc | apply pw_below_drewN | apply below_drew1) | exact HB.out)) hb); clear HB; have HB := n0_; clear n0_; (try clear hb); (try clear hb2); (try clear hk); (try clear hi); (try simp only [errW_none, errW_some, errX_none, errX_some]))); try go_wp2_with (first | (go_at_call 99; (with_reducible refine (fastjson_parseRawString.calls kj2 a0 t121 t122 none _ A18.out).mono ?_); rintro e w19 ⟨et_A18_2, ep_A18_2, rfl, hb⟩; have n0_ := Aside0.mk (below_step (by repeat (first | (with_reducible first | exact HB.out | apply below_alloc | apply pw_below_drewN | apply below_drew1) | exact HB.out)) hb); clear HB; have HB := n0_; clear n0_; (try clear hb); (try clear hb2); (try clear hk); (try clear hi); (try simp only [errW_none, errW_some, errX_none, errX_some]))))
          try simp only [Act.put, List.setIfInBounds_toArray, List.set_cons_succ, List.set_cons_zero]
          go_loopg [6] kj2 (fun kq v6 w' => ∃ (x6_2 : ByteArray), v6 = .string x6_2 ∧ Aside0 (fastjson_validateString.l0 kq x6_2 t122 = some (r1, r2, r3)) ∧ Aside0 (kq ≤ kj2) ∧ Aside0 (Below w.heap.size w w'))
          case atStart => exact ⟨(t121), (by first | rfl | (simp; done) | (simp [*]; done)), H', ⟨Nat.le_refl _⟩, ⟨by repeat (first | (with_reducible first | exact HB.out | apply below_alloc | apply pw_below_drewN | apply below_drew1) | exact HB.out)⟩⟩
          case round =>
            clear H'
            try clear c1
            try clear q1
            try clear p2
            try clear c4
            try clear c4b0
            try clear c4b1
            try clear c5
            try clear c5b0
            try clear c5b1
            try clear c6
            try clear c6b0
            try clear c6b1
            try clear p6
            try clear c8
            try clear c10
            try clear c11
            try clear c11b0
            try clear c11b1
            try clear c12
            try clear c12b0
            try clear c12b1
            try clear q12
            try clear c14
            try clear c14b0
            try clear c14b1
            try clear c15
            try clear c15b0
            try clear c15b1
            try clear p2
            try clear q124
            obtain ⟨x6_2, rfl, HA, HK2, HB⟩ := hrel
            cases gk with
            | zero => exact absurd HA.out (by simp [fastjson_validateString.l0])
            | succ k2 =>
              have H := HA.out
              clear HA
              simp only [fastjson_validateString.l0] at H
              replace H := Option.bind_eq_some_iff.mp H
              obtain ⟨t125, A200, H⟩ := H
              replace H : (if t125 < 0 then (some (x6_2, t122, none)) else (if (wrap64 (t125 + 1)) ≥ (x6_2.size : Int) then ((errors_New.f (⟨#[66, 85, 71, 58, 32, 112, 97, 114, 115, 101, 82, 97, 119, 83, 116, 114, 105, 110, 103, 32, 114, 101, 116, 117, 114, 110, 101, 100, 32, 105, 110, 118, 97, 108, 105, 100, 32, 115, 116, 114, 105, 110, 103, 32, 119, 105, 116, 104, 32, 116, 114, 97, 105, 108, 105, 110, 103, 32, 98, 97, 99, 107, 115, 108, 97, 115, 104]⟩ : ByteArray)).bind fun t126 => (some (x6_2, t122, t126))) else (if 0 ≤ (wrap64 (t125 + 1)) then (if (wrap64 (t125 + 1)) < (x6_2.size : Int) then (if 0 ≤ (wrap64 ((wrap64 (t125 + 1)) + 1)) then (if (wrap64 ((wrap64 (t125 + 1)) + 1)) ≤ (x6_2.size : Int) then (if (bt x6_2 (wrap64 (t125 + 1))) = 34 then (fastjson_validateString.j2 k2 (x6_2.extract ((wrap64 ((wrap64 (t125 + 1)) + 1)) : Int).toNat x6_2.size) t122 (bt x6_2 (wrap64 (t125 + 1))) ((bt x6_2 (wrap64 (t125 + 1))) == 34)) else (if (bt x6_2 (wrap64 (t125 + 1))) = 92 then (fastjson_validateString.j2 k2 (x6_2.extract ((wrap64 ((wrap64 (t125 + 1)) + 1)) : Int).toNat x6_2.size) t122 (bt x6_2 (wrap64 (t125 + 1))) ((bt x6_2 (wrap64 (t125 + 1))) == 92)) else (if (bt x6_2 (wrap64 (t125 + 1))) = 47 then (fastjson_validateString.j2 k2 (x6_2.extract ((wrap64 ((wrap64 (t125 + 1)) + 1)) : Int).toNat x6_2.size) t122 (bt x6_2 (wrap64 (t125 + 1))) ((bt x6_2 (wrap64 (t125 + 1))) == 47)) else (if (bt x6_2 (wrap64 (t125 + 1))) = 98 then (fastjson_validateString.j2 k2 (x6_2.extract ((wrap64 ((wrap64 (t125 + 1)) + 1)) : Int).toNat x6_2.size) t122 (bt x6_2 (wrap64 (t125 + 1))) ((bt x6_2 (wrap64 (t125 + 1))) == 98)) else (if (bt x6_2 (wrap64 (t125 + 1))) = 102 then (fastjson_validateString.j2 k2 (x6_2.extract ((wrap64 ((wrap64 (t125 + 1)) + 1)) : Int).toNat x6_2.size) t122 (bt x6_2 (wrap64 (t125 + 1))) ((bt x6_2 (wrap64 (t125 + 1))) == 102)) else (if (bt x6_2 (wrap64 (t125 + 1))) = 110 then (fastjson_validateString.j2 k2 (x6_2.extract ((wrap64 ((wrap64 (t125 + 1)) + 1)) : Int).toNat x6_2.size) t122 (bt x6_2 (wrap64 (t125 + 1))) ((bt x6_2 (wrap64 (t125 + 1))) == 110)) else (if (bt x6_2 (wrap64 (t125 + 1))) = 114 then (fastjson_validateString.j2 k2 (x6_2.extract ((wrap64 ((wrap64 (t125 + 1)) + 1)) : Int).toNat x6_2.size) t122 (bt x6_2 (wrap64 (t125 + 1))) ((bt x6_2 (wrap64 (t125 + 1))) == 114)) else (fastjson_validateString.j2 k2 (x6_2.extract ((wrap64 ((wrap64 (t125 + 1)) + 1)) : Int).toNat x6_2.size) t122 (bt x6_2 (wrap64 (t125 + 1))) ((bt x6_2 (wrap64 (t125 + 1))) == 116))))))))) else (none)) else (none)) else (none)) else (none)))) = some (r1, r2, r3) := H
              have A20 := Aside0.mk A200
              clear A200
              by_cases c21 : t125 < 0
              · rw [if_pos c21] at H
                have c21b0 : decide (t125 < 0) = true := decide_eq_true c21
                clear c21
                simp only [Option.some.injEq, Prod.mk.injEq] at H
                obtain ⟨rfl, rfl, rfl⟩ := H
                go_wp2_with (first | (go_at_call 98; (with_reducible refine (strings_IndexByte.calls x6_2 92 t125 _ A20.out).mono ?_); rintro e w' ⟨rfl, ⟨nd, rfl⟩⟩; (try first | exact ⟨rfl, _, World.drewN_drewN _ _ _⟩ | exact ⟨rfl, _, Eq.trans (World.drewN_drewN _ _ _) (congrArg (World.drewN _) (Nat.add_assoc _ _ _))⟩)))
                repeat (go_quiet (first | (go_at_call 98; (with_reducible refine (strings_IndexByte.calls x6_2 92 t125 _ A20.out).mono ?_); rintro e w' ⟨rfl, ⟨nd, rfl⟩⟩; (try first | exact ⟨rfl, _, World.drewN_drewN _ _ _⟩ | exact ⟨rfl, _, Eq.trans (World.drewN_drewN _ _ _) (congrArg (World.drewN _) (Nat.add_assoc _ _ _))⟩))); try go_wp2_with (first | (go_at_call 98; (with_reducible refine (strings_IndexByte.calls x6_2 92 t125 _ A20.out).mono ?_); rintro e w' ⟨rfl, ⟨nd, rfl⟩⟩; (try first | exact ⟨rfl, _, World.drewN_drewN _ _ _⟩ | exact ⟨rfl, _, Eq.trans (World.drewN_drewN _ _ _) (congrArg (World.drewN _) (Nat.add_assoc _ _ _))⟩))))
                go_ret3
                exact ⟨0, .nilIface, by first | rfl | (simp [errW_none, errW_some] <;> rfl) | (simp [*, errW_none, errW_some] <;> rfl), by repeat (first | (with_reducible first | exact HB.out | apply below_alloc | apply pw_below_drewN | apply below_drew1) | exact HB.out)⟩
              · rw [if_neg c21] at H
                have c21b0 : decide (t125 < 0) = false := decide_eq_false c21
                clear c21
                by_cases c22 : (wrap64 (t125 + 1)) ≥ (x6_2.size : Int)
                · rw [if_pos c22] at H
                  have c22b0 : decide ((x6_2.size : Int) ≤ (wrap64 (t125 + 1))) = true := decide_eq_true c22
                  clear c22
                  replace H := Option.bind_eq_some_iff.mp H
                  obtain ⟨t126, A230, H⟩ := H
                  replace H : (some (x6_2, t122, t126)) = some (r1, r2, r3) := H
                  have A23 := Aside0.mk A230
                  clear A230
                  simp only [Option.some.injEq, Prod.mk.injEq] at H
                  obtain ⟨rfl, rfl, rfl⟩ := H
                  go_wp2_with (first | (go_at_call 98; (with_reducible refine (strings_IndexByte.calls x6_2 92 t125 _ A20.out).mono ?_); rintro e w' ⟨rfl, ⟨nd, rfl⟩⟩; (try first | exact ⟨rfl, _, World.drewN_drewN _ _ _⟩ | exact ⟨rfl, _, Eq.trans (World.drewN_drewN _ _ _) (congrArg (World.drewN _) (Nat.add_assoc _ _ _))⟩)) | (go_at_call 81; (with_reducible refine (errors_New.calls (⟨#[66, 85, 71, 58, 32, 112, 97, 114, 115, 101, 82, 97, 119, 83, 116, 114, 105, 110, 103, 32, 114, 101, 116, 117, 114, 110, 101, 100, 32, 105, 110, 118, 97, 108, 105, 100, 32, 115, 116, 114, 105, 110, 103, 32, 119, 105, 116, 104, 32, 116, 114, 97, 105, 108, 105, 110, 103, 32, 98, 97, 99, 107, 115, 108, 97, 115, 104]⟩ : ByteArray) t126 _ A23.out).mono ?_); rintro e w24 ⟨et_A23_0, ep_A23_0, rfl, hb⟩; have n0_ := Aside0.mk (below_step (by repeat (first | (with_reducible first | exact HB.out | apply below_alloc | apply pw_below_drewN | apply below_drew1) | exact HB.out)) hb); clear HB; have HB := n0_; clear n0_; (try clear hb); (try clear hb2); (try clear hk); (try clear hi); (try simp only [errW_none, errW_some, errX_none, errX_some])))
                  repeat (go_quiet (first | (go_at_call 98; (with_reducible refine (strings_IndexByte.calls x6_2 92 t125 _ A20.out).mono ?_); rintro e w' ⟨rfl, ⟨nd, rfl⟩⟩; (try first | exact ⟨rfl, _, World.drewN_drewN _ _ _⟩ | exact ⟨rfl, _, Eq.trans (World.drewN_drewN _ _ _) (congrArg (World.drewN _) (Nat.add_assoc _ _ _))⟩)) | (go_at_call 81; (with_reducible refine (errors_New.calls (⟨#[66, 85, 71, 58, 32, 112, 97, 114, 115, 101, 82, 97, 119, 83, 116, 114, 105, 110, 103, 32, 114, 101, 116, 117, 114, 110, 101, 100, 32, 105, 110, 118, 97, 108, 105, 100, 32, 115, 116, 114, 105, 110, 103, 32, 119, 105, 116, 104, 32, 116, 114, 97, 105, 108, 105, 110, 103, 32, 98, 97, 99, 107, 115, 108, 97, 115, 104]⟩ : ByteArray) t126 _ A23.out).mono ?_); rintro e w24 ⟨et_A23_0, ep_A23_0, rfl, hb⟩; have n0_ := Aside0.mk (below_step (by repeat (first | (with_reducible first | exact HB.out | apply below_alloc | apply pw_below_drewN | apply below_drew1) | exact HB.out)) hb); clear HB; have HB := n0_; clear n0_; (try clear hb); (try clear hb2); (try clear hk); (try clear hi); (try simp only [errW_none, errW_some, errX_none, errX_some]))); try go_wp2_with (first | (go_at_call 98; (with_reducible refine (strings_IndexByte.calls x6_2 92 t125 _ A20.out).mono ?_); rintro e w' ⟨rfl, ⟨nd, rfl⟩⟩; (try first | exact ⟨rfl, _, World.drewN_drewN _ _ _⟩ | exact ⟨rfl, _, Eq.trans (World.drewN_drewN _ _ _) (congrArg (World.drewN _) (Nat.add_assoc _ _ _))⟩)) | (go_at_call 81; (with_reducible refine (errors_New.calls (⟨#[66, 85, 71, 58, 32, 112, 97, 114, 115, 101, 82, 97, 119, 83, 116, 114, 105, 110, 103, 32, 114, 101, 116, 117, 114, 110, 101, 100, 32, 105, 110, 118, 97, 108, 105, 100, 32, 115, 116, 114, 105, 110, 103, 32, 119, 105, 116, 104, 32, 116, 114, 97, 105, 108, 105, 110, 103, 32, 98, 97, 99, 107, 115, 108, 97, 115, 104]⟩ : ByteArray) t126 _ A23.out).mono ?_); rintro e w24 ⟨et_A23_0, ep_A23_0, rfl, hb⟩; have n0_ := Aside0.mk (below_step (by repeat (first | (with_reducible first | exact HB.out | apply below_alloc | apply pw_below_drewN | apply below_drew1) | exact HB.out)) hb); clear HB; have HB := n0_; clear n0_; (try clear hb); (try clear hb2); (try clear hk); (try clear hi); (try simp only [errW_none, errW_some, errX_none, errX_some]))))
                  go_ret3
                  exact ⟨et_A23_0, ep_A23_0, by first | rfl | (simp [errW_none, errW_some] <;> rfl) | (simp [*, errW_none, errW_some] <;> rfl), by repeat (first | (with_reducible first | exact HB.out | apply below_alloc | apply pw_below_drewN | apply below_drew1) | exact HB.out)⟩
                · rw [if_neg c22] at H
                  have c22b0 : decide ((x6_2.size : Int) ≤ (wrap64 (t125 + 1))) = false := decide_eq_false c22
                  clear c22
                  obtain ⟨ji25, hji25⟩ : ∃ j_ : Int, (wrap64 (t125 + 1)) = j_ := ⟨_, rfl⟩
                  replace H : (if 0 ≤ (ji25) then (if (ji25) < (x6_2.size : Int) then (if 0 ≤ (wrap64 ((ji25) + 1)) then (if (wrap64 ((ji25) + 1)) ≤ (x6_2.size : Int) then (if (bt x6_2 (ji25)) = 34 then (fastjson_validateString.j2 k2 (x6_2.extract ((wrap64 ((ji25) + 1)) : Int).toNat x6_2.size) t122 (bt x6_2 (ji25)) ((bt x6_2 (ji25)) == 34)) else (if (bt x6_2 (ji25)) = 92 then (fastjson_validateString.j2 k2 (x6_2.extract ((wrap64 ((ji25) + 1)) : Int).toNat x6_2.size) t122 (bt x6_2 (ji25)) ((bt x6_2 (ji25)) == 92)) else (if (bt x6_2 (ji25)) = 47 then (fastjson_validateString.j2 k2 (x6_2.extract ((wrap64 ((ji25) + 1)) : Int).toNat x6_2.size) t122 (bt x6_2 (ji25)) ((bt x6_2 (ji25)) == 47)) else (if (bt x6_2 (ji25)) = 98 then (fastjson_validateString.j2 k2 (x6_2.extract ((wrap64 ((ji25) + 1)) : Int).toNat x6_2.size) t122 (bt x6_2 (ji25)) ((bt x6_2 (ji25)) == 98)) else (if (bt x6_2 (ji25)) = 102 then (fastjson_validateString.j2 k2 (x6_2.extract ((wrap64 ((ji25) + 1)) : Int).toNat x6_2.size) t122 (bt x6_2 (ji25)) ((bt x6_2 (ji25)) == 102)) else (if (bt x6_2 (ji25)) = 110 then (fastjson_validateString.j2 k2 (x6_2.extract ((wrap64 ((ji25) + 1)) : Int).toNat x6_2.size) t122 (bt x6_2 (ji25)) ((bt x6_2 (ji25)) == 110)) else (if (bt x6_2 (ji25)) = 114 then (fastjson_validateString.j2 k2 (x6_2.extract ((wrap64 ((ji25) + 1)) : Int).toNat x6_2.size) t122 (bt x6_2 (ji25)) ((bt x6_2 (ji25)) == 114)) else (fastjson_validateString.j2 k2 (x6_2.extract ((wrap64 ((ji25) + 1)) : Int).toNat x6_2.size) t122 (bt x6_2 (ji25)) ((bt x6_2 (ji25)) == 116))))))))) else (none)) else (none)) else (none)) else (none)) = some (r1, r2, r3) := by first | (rw [hji25] at H; exact H) | (simp only [hji25] at H ⊢; exact H)
                  (try rw [hji25] at c22b0)
                  (try rw [hji25] at A20)
                  have hji25w : (IntKind.i64.wrap (t125 + 1)) = ji25 := (i64_w _).trans hji25
                  by_cases c26 : 0 ≤ (ji25)
                  · rw [if_pos c26] at H
                    have c26b0 : decide (0 ≤ (ji25)) = true := decide_eq_true c26
                    clear c26
                    by_cases c27 : (ji25) < (x6_2.size : Int)
                    · rw [if_pos c27] at H
                      have c27b0 : decide ((ji25) < (x6_2.size : Int)) = true := decide_eq_true c27
                      clear c27
                      obtain ⟨ji29, hji29⟩ : ∃ j_ : Int, (wrap64 ((ji25) + 1)) = j_ := ⟨_, rfl⟩
                      replace H : (if 0 ≤ (ji29) then (if (ji29) ≤ (x6_2.size : Int) then (if (bt x6_2 (ji25)) = 34 then (fastjson_validateString.j2 k2 (x6_2.extract ((ji29) : Int).toNat x6_2.size) t122 (bt x6_2 (ji25)) ((bt x6_2 (ji25)) == 34)) else (if (bt x6_2 (ji25)) = 92 then (fastjson_validateString.j2 k2 (x6_2.extract ((ji29) : Int).toNat x6_2.size) t122 (bt x6_2 (ji25)) ((bt x6_2 (ji25)) == 92)) else (if (bt x6_2 (ji25)) = 47 then (fastjson_validateString.j2 k2 (x6_2.extract ((ji29) : Int).toNat x6_2.size) t122 (bt x6_2 (ji25)) ((bt x6_2 (ji25)) == 47)) else (if (bt x6_2 (ji25)) = 98 then (fastjson_validateString.j2 k2 (x6_2.extract ((ji29) : Int).toNat x6_2.size) t122 (bt x6_2 (ji25)) ((bt x6_2 (ji25)) == 98)) else (if (bt x6_2 (ji25)) = 102 then (fastjson_validateString.j2 k2 (x6_2.extract ((ji29) : Int).toNat x6_2.size) t122 (bt x6_2 (ji25)) ((bt x6_2 (ji25)) == 102)) else (if (bt x6_2 (ji25)) = 110 then (fastjson_validateString.j2 k2 (x6_2.extract ((ji29) : Int).toNat x6_2.size) t122 (bt x6_2 (ji25)) ((bt x6_2 (ji25)) == 110)) else (if (bt x6_2 (ji25)) = 114 then (fastjson_validateString.j2 k2 (x6_2.extract ((ji29) : Int).toNat x6_2.size) t122 (bt x6_2 (ji25)) ((bt x6_2 (ji25)) == 114)) else (fastjson_validateString.j2 k2 (x6_2.extract ((ji29) : Int).toNat x6_2.size) t122 (bt x6_2 (ji25)) ((bt x6_2 (ji25)) == 116))))))))) else (none)) else (none)) = some (r1, r2, r3) := by first | (rw [hji29] at H; exact H) | (simp only [hji29] at H ⊢; exact H)
                      (try rw [hji29] at A20)
                      have hji29w : (IntKind.i64.wrap ((ji25) + 1)) = ji29 := (i64_w _).trans hji29
                      by_cases c30 : 0 ≤ (ji29)
                      · rw [if_pos c30] at H
                        have c30b0 := eq_true c30
                        have c30b1 : decide (0 ≤ (ji29)) = true := decide_eq_true c30
                        clear c30
                        by_cases c31 : (ji29) ≤ (x6_2.size : Int)
                        · rw [if_pos c31] at H
                          have c31b0 := eq_true c31
                          have c31b1 : decide ((ji29) ≤ (x6_2.size : Int)) = true := decide_eq_true c31
                          clear c31
                          obtain ⟨js32, hjs32⟩ : ∃ z_ : ByteArray, (x6_2.extract ((ji29) : Int).toNat x6_2.size) = z_ := ⟨_, rfl⟩
                          replace H : (if (bt x6_2 (ji25)) = 34 then (fastjson_validateString.j2 k2 js32 t122 (bt x6_2 (ji25)) ((bt x6_2 (ji25)) == 34)) else (if (bt x6_2 (ji25)) = 92 then (fastjson_validateString.j2 k2 js32 t122 (bt x6_2 (ji25)) ((bt x6_2 (ji25)) == 92)) else (if (bt x6_2 (ji25)) = 47 then (fastjson_validateString.j2 k2 js32 t122 (bt x6_2 (ji25)) ((bt x6_2 (ji25)) == 47)) else (if (bt x6_2 (ji25)) = 98 then (fastjson_validateString.j2 k2 js32 t122 (bt x6_2 (ji25)) ((bt x6_2 (ji25)) == 98)) else (if (bt x6_2 (ji25)) = 102 then (fastjson_validateString.j2 k2 js32 t122 (bt x6_2 (ji25)) ((bt x6_2 (ji25)) == 102)) else (if (bt x6_2 (ji25)) = 110 then (fastjson_validateString.j2 k2 js32 t122 (bt x6_2 (ji25)) ((bt x6_2 (ji25)) == 110)) else (if (bt x6_2 (ji25)) = 114 then (fastjson_validateString.j2 k2 js32 t122 (bt x6_2 (ji25)) ((bt x6_2 (ji25)) == 114)) else (fastjson_validateString.j2 k2 js32 t122 (bt x6_2 (ji25)) ((bt x6_2 (ji25)) == 116))))))))) = some (r1, r2, r3) := by first | (rw [hjs32] at H; exact H) | (simp only [hjs32] at H ⊢; exact H)
                          have HC33 := Aside0.mk H
                          clear H
                          go_upto_if 69 with (first | (go_at_call 98; (with_reducible refine (strings_IndexByte.calls x6_2 92 t125 _ A20.out).mono ?_); rintro e w' ⟨rfl, ⟨nd, rfl⟩⟩; (try first | exact ⟨rfl, _, World.drewN_drewN _ _ _⟩ | exact ⟨rfl, _, Eq.trans (World.drewN_drewN _ _ _) (congrArg (World.drewN _) (Nat.add_assoc _ _ _))⟩); have p28 : 0 ≤ ((ji25) : Int) := of_decide_eq_true (by first | (with_reducible assumption) | assumption); have q28 : (ji25) < (x6_2.size : Int) := of_decide_eq_true (by first | (with_reducible assumption) | assumption); have hx28 := bt_at x6_2 (ji25); replace p28 := eq_true p28; replace q28 := eq_true q28; try have hcs34 := fun W_ : World => run_slice_string_l (P := Tryd.prog) W_ 9 x6_2 Tryd.underlying9 .i64 (ji29) (of_decide_eq_true (by first | (with_reducible assumption) | assumption)) (of_decide_eq_true (by first | (with_reducible assumption) | assumption)); (try simp only [hjs32] at hcs34)))
                          repeat (go_quiet (first | (go_at_call 98; (with_reducible refine (strings_IndexByte.calls x6_2 92 t125 _ A20.out).mono ?_); rintro e w' ⟨rfl, ⟨nd, rfl⟩⟩; (try first | exact ⟨rfl, _, World.drewN_drewN _ _ _⟩ | exact ⟨rfl, _, Eq.trans (World.drewN_drewN _ _ _) (congrArg (World.drewN _) (Nat.add_assoc _ _ _))⟩); have p28 : 0 ≤ ((ji25) : Int) := of_decide_eq_true (by first | (with_reducible assumption) | assumption); have q28 : (ji25) < (x6_2.size : Int) := of_decide_eq_true (by first | (with_reducible assumption) | assumption); have hx28 := bt_at x6_2 (ji25); replace p28 := eq_true p28; replace q28 := eq_true q28; try have hcs34 := fun W_ : World => run_slice_string_l (P := Tryd.prog) W_ 9 x6_2 Tryd.underlying9 .i64 (ji29) (of_decide_eq_true (by first | (with_reducible assumption) | assumption)) (of_decide_eq_true (by first | (with_reducible assumption) | assumption)); (try simp only [hjs32] at hcs34))); go_upto_if 69 with (first | (go_at_call 98; (with_reducible refine (strings_IndexByte.calls x6_2 92 t125 _ A20.out).mono ?_); rintro e w' ⟨rfl, ⟨nd, rfl⟩⟩; (try first | exact ⟨rfl, _, World.drewN_drewN _ _ _⟩ | exact ⟨rfl, _, Eq.trans (World.drewN_drewN _ _ _) (congrArg (World.drewN _) (Nat.add_assoc _ _ _))⟩); have p28 : 0 ≤ ((ji25) : Int) := of_decide_eq_true (by first | (with_reducible assumption) | assumption); have q28 : (ji25) < (x6_2.size : Int) := of_decide_eq_true (by first | (with_reducible assumption) | assumption); have hx28 := bt_at x6_2 (ji25); replace p28 := eq_true p28; replace q28 := eq_true q28; try have hcs34 := fun W_ : World => run_slice_string_l (P := Tryd.prog) W_ 9 x6_2 Tryd.underlying9 .i64 (ji29) (of_decide_eq_true (by first | (with_reducible assumption) | assumption)) (of_decide_eq_true (by first | (with_reducible assumption) | assumption)); (try simp only [hjs32] at hcs34))))
                          (try simp only [Act.put, List.setIfInBounds_toArray, List.set_cons_zero, List.set_cons_succ])
                          go_cut [69] (fun v69 wc => ∃ (kq : Nat) (x69_32 : Bool), v69 = .bool x69_32 ∧ Aside0 (fastjson_validateString.j2 kq js32 t122 (bt x6_2 (ji25)) x69_32 = some (r1, r2, r3)) ∧ Aside0 (kq ≤ k2) ∧ Aside0 (Below w.heap.size w wc))
                          case first =>
                            have H := HC33.out
                            clear HC33
                            by_cases c35 : (bt x6_2 (ji25)) = 34
                            · rw [if_pos c35] at H
                              have c35b0 : ((bt x6_2 (ji25)) == 34) = true := beq_iff_eq.mpr c35
                              have c35b1 : ((bt x6_2 (ji25)) != 34) = false := bne_eq_false_iff_eq.mpr c35
                              clear c35
                              (first | rw [c35b0] | (simp only [i64_w, i32_w]; rw [c35b0]) | rw [c35b1] | skip)
                              have H' := Aside0.mk H
                              clear H
                              go_wp2
                              repeat (go_quiet (fail); try go_wp2)
                              go_meet
                              case rel => exact ⟨_, (((bt x6_2 (ji25)) == 34)), (by first | rfl | (simp; done) | (simp only [← hji25] <;> (first | rfl | (simp; done))) | (simp [*]; done)), H', ⟨by have := HJ2.out; have := HK2.out; first | omega | exact Nat.le_refl _⟩, ⟨by repeat (first | (with_reducible first | exact HB.out | apply below_alloc | apply pw_below_drewN | apply below_drew1) | exact HB.out)⟩⟩
                            · rw [if_neg c35] at H
                              have c35b0 : ((bt x6_2 (ji25)) == 34) = false := beq_eq_false_iff_ne.mpr c35
                              have c35b1 : ((bt x6_2 (ji25)) != 34) = true := bne_iff_ne.mpr c35
                              (first | rw [c35b0] | (simp only [i64_w, i32_w]; rw [c35b0]) | rw [c35b1] | skip)
                              by_cases c36 : (bt x6_2 (ji25)) = 92
                              · rw [if_pos c36] at H
                                have c36b0 : ((bt x6_2 (ji25)) == 92) = true := beq_iff_eq.mpr c36
                                have c36b1 : ((bt x6_2 (ji25)) != 92) = false := bne_eq_false_iff_eq.mpr c36
                                clear c36
                                have H' := Aside0.mk H
                                clear H
                                go_wp2
                                repeat (go_quiet (fail); try go_wp2)
                                go_meet
                                case rel => exact ⟨_, (((bt x6_2 (ji25)) == 92)), (by first | rfl | (simp; done) | (simp only [← hji25] <;> (first | rfl | (simp; done))) | (simp [*]; done)), H', ⟨by have := HJ2.out; have := HK2.out; first | omega | exact Nat.le_refl _⟩, ⟨by repeat (first | (with_reducible first | exact HB.out | apply below_alloc | apply pw_below_drewN | apply below_drew1) | exact HB.out)⟩⟩
                              · rw [if_neg c36] at H
                                have c36b0 : ((bt x6_2 (ji25)) == 92) = false := beq_eq_false_iff_ne.mpr c36
                                have c36b1 : ((bt x6_2 (ji25)) != 92) = true := bne_iff_ne.mpr c36
                                by_cases c37 : (bt x6_2 (ji25)) = 47
                                · rw [if_pos c37] at H
                                  have c37b0 : ((bt x6_2 (ji25)) == 47) = true := beq_iff_eq.mpr c37
                                  have c37b1 : ((bt x6_2 (ji25)) != 47) = false := bne_eq_false_iff_eq.mpr c37
                                  clear c37
                                  have H' := Aside0.mk H
                                  clear H
                                  go_wp2
                                  repeat (go_quiet (fail); try go_wp2)
                                  go_meet
                                  case rel => exact ⟨_, (((bt x6_2 (ji25)) == 47)), (by first | rfl | (simp; done) | (simp only [← hji25] <;> (first | rfl | (simp; done))) | (simp [*]; done)), H', ⟨by have := HJ2.out; have := HK2.out; first | omega | exact Nat.le_refl _⟩, ⟨by repeat (first | (with_reducible first | exact HB.out | apply below_alloc | apply pw_below_drewN | apply below_drew1) | exact HB.out)⟩⟩
                                · rw [if_neg c37] at H
                                  have c37b0 : ((bt x6_2 (ji25)) == 47) = false := beq_eq_false_iff_ne.mpr c37
                                  have c37b1 : ((bt x6_2 (ji25)) != 47) = true := bne_iff_ne.mpr c37
                                  by_cases c38 : (bt x6_2 (ji25)) = 98
                                  · rw [if_pos c38] at H
                                    have c38b0 : ((bt x6_2 (ji25)) == 98) = true := beq_iff_eq.mpr c38
                                    have c38b1 : ((bt x6_2 (ji25)) != 98) = false := bne_eq_false_iff_eq.mpr c38
                                    clear c38
                                    have H' := Aside0.mk H
                                    clear H
                                    go_wp2
                                    repeat (go_quiet (fail); try go_wp2)
                                    go_meet
                                    case rel => exact ⟨_, (((bt x6_2 (ji25)) == 98)), (by first | rfl | (simp; done) | (simp only [← hji25] <;> (first | rfl | (simp; done))) | (simp [*]; done)), H', ⟨by have := HJ2.out; have := HK2.out; first | omega | exact Nat.le_refl _⟩, ⟨by repeat (first | (with_reducible first | exact HB.out | apply below_alloc | apply pw_below_drewN | apply below_drew1) | exact HB.out)⟩⟩
                                  · rw [if_neg c38] at H
                                    have c38b0 : ((bt x6_2 (ji25)) == 98) = false := beq_eq_false_iff_ne.mpr c38
                                    have c38b1 : ((bt x6_2 (ji25)) != 98) = true := bne_iff_ne.mpr c38
                                    by_cases c39 : (bt x6_2 (ji25)) = 102
                                    · rw [if_pos c39] at H
                                      have c39b0 : ((bt x6_2 (ji25)) == 102) = true := beq_iff_eq.mpr c39
                                      have c39b1 : ((bt x6_2 (ji25)) != 102) = false := bne_eq_false_iff_eq.mpr c39
                                      clear c39
                                      have H' := Aside0.mk H
                                      clear H
                                      go_wp2
                                      repeat (go_quiet (fail); try go_wp2)
                                      go_meet
                                      case rel => exact ⟨_, (((bt x6_2 (ji25)) == 102)), (by first | rfl | (simp; done) | (simp only [← hji25] <;> (first | rfl | (simp; done))) | (simp [*]; done)), H', ⟨by have := HJ2.out; have := HK2.out; first | omega | exact Nat.le_refl _⟩, ⟨by repeat (first | (with_reducible first | exact HB.out | apply below_alloc | apply pw_below_drewN | apply below_drew1) | exact HB.out)⟩⟩
                                    · rw [if_neg c39] at H
                                      have c39b0 : ((bt x6_2 (ji25)) == 102) = false := beq_eq_false_iff_ne.mpr c39
                                      have c39b1 : ((bt x6_2 (ji25)) != 102) = true := bne_iff_ne.mpr c39
                                      by_cases c40 : (bt x6_2 (ji25)) = 110
                                      · rw [if_pos c40] at H
                                        have c40b0 : ((bt x6_2 (ji25)) == 110) = true := beq_iff_eq.mpr c40
                                        have c40b1 : ((bt x6_2 (ji25)) != 110) = false := bne_eq_false_iff_eq.mpr c40
                                        clear c40
                                        have H' := Aside0.mk H
                                        clear H
                                        go_wp2
                                        repeat (go_quiet (fail); try go_wp2)
                                        go_meet
                                        case rel => exact ⟨_, (((bt x6_2 (ji25)) == 110)), (by first | rfl | (simp; done) | (simp only [← hji25] <;> (first | rfl | (simp; done))) | (simp [*]; done)), H', ⟨by have := HJ2.out; have := HK2.out; first | omega | exact Nat.le_refl _⟩, ⟨by repeat (first | (with_reducible first | exact HB.out | apply below_alloc | apply pw_below_drewN | apply below_drew1) | exact HB.out)⟩⟩
                                      · rw [if_neg c40] at H
                                        have c40b0 : ((bt x6_2 (ji25)) == 110) = false := beq_eq_false_iff_ne.mpr c40
                                        have c40b1 : ((bt x6_2 (ji25)) != 110) = true := bne_iff_ne.mpr c40
                                        by_cases c41 : (bt x6_2 (ji25)) = 114
                                        · rw [if_pos c41] at H
                                          have c41b0 : ((bt x6_2 (ji25)) == 114) = true := beq_iff_eq.mpr c41
                                          have c41b1 : ((bt x6_2 (ji25)) != 114) = false := bne_eq_false_iff_eq.mpr c41
                                          clear c41
                                          have H' := Aside0.mk H
                                          clear H
                                          go_wp2
                                          repeat (go_quiet (fail); try go_wp2)
                                          go_meet
                                          case rel => exact ⟨_, (((bt x6_2 (ji25)) == 114)), (by first | rfl | (simp; done) | (simp only [← hji25] <;> (first | rfl | (simp; done))) | (simp [*]; done)), H', ⟨by have := HJ2.out; have := HK2.out; first | omega | exact Nat.le_refl _⟩, ⟨by repeat (first | (with_reducible first | exact HB.out | apply below_alloc | apply pw_below_drewN | apply below_drew1) | exact HB.out)⟩⟩
                                        · rw [if_neg c41] at H
                                          have c41b0 : ((bt x6_2 (ji25)) == 114) = false := beq_eq_false_iff_ne.mpr c41
                                          have c41b1 : ((bt x6_2 (ji25)) != 114) = true := bne_iff_ne.mpr c41
                                          have H' := Aside0.mk H
                                          clear H
                                          go_wp2
                                          repeat (go_quiet (fail); try go_wp2)
                                          go_meet
                                          case rel => exact ⟨_, (((bt x6_2 (ji25)) == 116)), (by first | rfl | (simp; done) | (simp only [← hji25] <;> (first | rfl | (simp; done))) | (simp [*]; done)), H', ⟨by have := HJ2.out; have := HK2.out; first | omega | exact Nat.le_refl _⟩, ⟨by repeat (first | (with_reducible first | exact HB.out | apply below_alloc | apply pw_below_drewN | apply below_drew1) | exact HB.out)⟩⟩
                          case rest =>
                            clear HC33
                            try clear c1
                            try clear q1
                            try clear c2
                            try clear p2
                            try clear q2
                            try clear hx2
                            try clear c3
                            try clear c4
                            try clear c4b0
                            try clear c4b1
                            try clear c5
                            try clear c5b0
                            try clear c5b1
                            try clear c6
                            try clear c6b0
                            try clear c6b1
                            try clear p6
                            try clear c8
                            try clear c10
                            try clear c11
                            try clear c11b0
                            try clear c11b1
                            try clear c12
                            try clear c12b0
                            try clear c12b1
                            try clear q12
                            try clear c14
                            try clear c14b0
                            try clear c14b1
                            try clear c15
                            try clear c15b0
                            try clear c15b1
                            try clear c21
                            try clear c21b0
                            try clear c22
                            try clear c22b0
                            try clear c26
                            try clear c26b0
                            try clear c27
                            try clear c27b0
                            try clear p28
                            try clear q28
                            try clear hx28
                            try clear c30
                            try clear c30b0
                            try clear c30b1
                            try clear c31
                            try clear c31b0
                            try clear c31b1
                            try clear c35
                            try clear c35b0
                            try clear c35b1
                            try clear c36
                            try clear c36b0
                            try clear c36b1
                            try clear c37
                            try clear c37b0
                            try clear c37b1
                            try clear c38
                            try clear c38b0
                            try clear c38b1
                            try clear c39
                            try clear c39b0
                            try clear c39b1
                            try clear c40
                            try clear c40b0
                            try clear c40b1
                            try clear c41
                            try clear c41b0
                            try clear c41b1
                            try clear p2
                            try clear p28
                            try clear p6
                            try clear q1
                            try clear q12
                            try clear q124
                            try clear q28
                            obtain ⟨kq, x69_32, rfl, HA, HJ32, HB⟩ := hcut
                            cases kq with
                            | zero => exact absurd HA.out (by simp [fastjson_validateString.j2])
                            | succ kj32 =>
                              have H := HA.out
                              clear HA
                              simp only [fastjson_validateString.j2] at H
                              by_cases c42 : x69_32 = true
                              · subst c42
                                have H1 : (fastjson_validateString.l0 kj32 js32 t122) = some (r1, r2, r3) := by rw [if_pos rfl] at H; exact H
                                clear H
                                have H := H1
                                clear H1
                                have H' := Aside0.mk H
                                clear H
                                go_wp2
                                repeat (go_quiet (fail); try go_wp2)
                                go_roundg kj32
                                case measure => have := HJ2.out; have := HK2.out; have := HJ32.out; omega
                                case rel => exact ⟨(js32), (by first | rfl | (simp; done) | (simp [*]; done)), H', ⟨by have := HJ2.out; have := HK2.out; have := HJ32.out; omega⟩, ⟨by repeat (first | (with_reducible first | exact HB.out | apply below_alloc | apply pw_below_drewN | apply below_drew1) | exact HB.out)⟩⟩
                              · replace c42 := Bool.eq_false_iff.mpr c42
                                subst c42
                                have H1 : (if (bt x6_2 (ji25)) = 117 then (if (js32.size : Int) < 4 then ((errors_New.f (⟨#[116, 111, 111, 32, 115, 104, 111, 114, 116, 32, 101, 115, 99, 97, 112, 101, 32, 115, 101, 113, 117, 101, 110, 99, 101, 58, 32, 92, 117]⟩ : ByteArray)).bind fun t127 => (some (js32, t122, t127))) else (if 0 ≤ 4 then (if 4 ≤ (js32.size : Int) then ((strconv_ParseUint.f (js32.extract 0 4) 16 16).bind fun bt128 => (if bt128.2.isNone = true then (fastjson_validateString.l0 kj32 (js32.extract 4 js32.size) t122) else ((errors_New.f (⟨#[105, 110, 118, 97, 108, 105, 100, 32, 101, 115, 99, 97, 112, 101, 32, 115, 101, 113, 117, 101, 110, 99, 101, 32, 92, 117]⟩ : ByteArray)).bind fun t131 => (some (js32, t122, t131))))) else (none)) else (none))) else ((errors_New.f (⟨#[117, 110, 107, 110, 111, 119, 110, 32, 101, 115, 99, 97, 112, 101, 32, 115, 101, 113, 117, 101, 110, 99, 101]⟩ : ByteArray)).bind fun t132 => (some (js32, t122, t132)))) = some (r1, r2, r3) := by rw [if_neg (show ¬ (false = true) by decide)] at H; exact H
                                clear H
                                have H := H1
                                clear H1
                                by_cases c43 : (bt x6_2 (ji25)) = 117
                                · rw [if_pos c43] at H
                                  have c43b0 : ((bt x6_2 (ji25)) == 117) = true := beq_iff_eq.mpr c43
                                  have c43b1 : ((bt x6_2 (ji25)) != 117) = false := bne_eq_false_iff_eq.mpr c43
                                  clear c43
                                  by_cases c44 : (js32.size : Int) < 4
                                  · rw [if_pos c44] at H
                                    have c44b0 : decide ((js32.size : Int) < 4) = true := decide_eq_true c44
                                    have c44b1 : decide (js32.size < 4) = true := decide_eq_true (by omega)
                                    clear c44
                                    replace H := Option.bind_eq_some_iff.mp H
                                    obtain ⟨t127, A450, H⟩ := H
                                    replace H : (some (js32, t122, t127)) = some (r1, r2, r3) := H
                                    have A45 := Aside0.mk A450
                                    clear A450
                                    simp only [Option.some.injEq, Prod.mk.injEq] at H
                                    obtain ⟨rfl, rfl, rfl⟩ := H
                                    go_wp2_with (first | (go_at_call 81; (with_reducible refine (errors_New.calls (⟨#[116, 111, 111, 32, 115, 104, 111, 114, 116, 32, 101, 115, 99, 97, 112, 101, 32, 115, 101, 113, 117, 101, 110, 99, 101, 58, 32, 92, 117]⟩ : ByteArray) t127 _ A45.out).mono ?_); rintro e w46 ⟨et_A45_0, ep_A45_0, rfl, hb⟩; have n0_ := Aside0.mk (below_step (by repeat (first | (with_reducible first | exact HB.out | apply below_alloc | apply pw_below_drewN | apply below_drew1) | exact HB.out)) hb); clear HB; have HB := n0_; clear n0_; (try clear hb); (try clear hb2); (try clear hk); (try clear hi); (try simp only [errW_none, errW_some, errX_none, errX_some])))
                                    repeat (go_quiet (first | (go_at_call 81; (with_reducible refine (errors_New.calls (⟨#[116, 111, 111, 32, 115, 104, 111, 114, 116, 32, 101, 115, 99, 97, 112, 101, 32, 115, 101, 113, 117, 101, 110, 99, 101, 58, 32, 92, 117]⟩ : ByteArray) t127 _ A45.out).mono ?_); rintro e w46 ⟨et_A45_0, ep_A45_0, rfl, hb⟩; have n0_ := Aside0.mk (below_step (by repeat (first | (with_reducible first | exact HB.out | apply below_alloc | apply pw_below_drewN | apply below_drew1) | exact HB.out)) hb); clear HB; have HB := n0_; clear n0_; (try clear hb); (try clear hb2); (try clear hk); (try clear hi); (try simp only [errW_none, errW_some, errX_none, errX_some]))); try go_wp2_with (first | (go_at_call 81; (with_reducible refine (errors_New.calls (⟨#[116, 111, 111, 32, 115, 104, 111, 114, 116, 32, 101, 115, 99, 97, 112, 101, 32, 115, 101, 113, 117, 101, 110, 99, 101, 58, 32, 92, 117]⟩ : ByteArray) t127 _ A45.out).mono ?_); rintro e w46 ⟨et_A45_0, ep_A45_0, rfl, hb⟩; have n0_ := Aside0.mk (below_step (by repeat (first | (with_reducible first | exact HB.out | apply below_alloc | apply pw_below_drewN | apply below_drew1) | exact HB.out)) hb); clear HB; have HB := n0_; clear n0_; (try clear hb); (try clear hb2); (try clear hk); (try clear hi); (try simp only [errW_none, errW_some, errX_none, errX_some]))))
                                    go_ret3
                                    exact ⟨et_A45_0, ep_A45_0, by first | rfl | (simp [errW_none, errW_some] <;> rfl) | (simp only [← hji25, ← hji29]; first | rfl | (simp [errW_none, errW_some] <;> rfl)) | (simp [*, errW_none, errW_some] <;> rfl), by repeat (first | (with_reducible first | exact HB.out | apply below_alloc | apply pw_below_drewN | apply below_drew1) | exact HB.out)⟩
                                  · rw [if_neg c44] at H
                                    have c44b0 : decide ((js32.size : Int) < 4) = false := decide_eq_false c44
                                    have c44b1 : decide (js32.size < 4) = false := decide_eq_false (by omega)
                                    clear c44
                                    by_cases c47 : 0 ≤ 4
                                    · rw [if_pos c47] at H
                                      have c47b0 := eq_true c47
                                      have c47b1 : decide (0 ≤ 4) = true := decide_eq_true c47
                                      clear c47
                                      by_cases c48 : 4 ≤ (js32.size : Int)
                                      · rw [if_pos c48] at H
                                        have c48b0 := eq_true c48
                                        have c48b1 : decide (4 ≤ (js32.size : Int)) = true := decide_eq_true c48
                                        clear c48
                                        obtain ⟨js49, hjs49⟩ : ∃ z_ : ByteArray, (js32.extract 0 4) = z_ := ⟨_, rfl⟩
                                        replace H : ((strconv_ParseUint.f js49 16 16).bind fun bt128 => (if bt128.2.isNone = true then (fastjson_validateString.l0 kj32 (js32.extract 4 js32.size) t122) else ((errors_New.f (⟨#[105, 110, 118, 97, 108, 105, 100, 32, 101, 115, 99, 97, 112, 101, 32, 115, 101, 113, 117, 101, 110, 99, 101, 32, 92, 117]⟩ : ByteArray)).bind fun t131 => (some (js32, t122, t131))))) = some (r1, r2, r3) := by first | (rw [hjs49] at H; exact H) | (simp only [hjs49] at H ⊢; exact H)
                                        replace H := Option.bind_eq_some_iff.mp H
                                        obtain ⟨⟨t128, t129⟩, A500, H⟩ := H
                                        replace H : (if t129.isNone = true then (fastjson_validateString.l0 kj32 (js32.extract 4 js32.size) t122) else ((errors_New.f (⟨#[105, 110, 118, 97, 108, 105, 100, 32, 101, 115, 99, 97, 112, 101, 32, 115, 101, 113, 117, 101, 110, 99, 101, 32, 92, 117]⟩ : ByteArray)).bind fun t131 => (some (js32, t122, t131)))) = some (r1, r2, r3) := H
                                        have A50 := Aside0.mk A500
                                        clear A500
                                        rcases t129 with _ | q130
                                        · have H1 : (fastjson_validateString.l0 kj32 (js32.extract 4 js32.size) t122) = some (r1, r2, r3) := by rw [if_pos (show (none : Option Int).isNone = true by rfl)] at H; exact H
                                          clear H
                                          have H := H1
                                          clear H1
                                          try simp only [errW_none, errW_some, errX_none, errX_some]
                                          have c51b0 := eq_true (of_decide_eq_true (by first | (with_reducible assumption) | assumption) : 4 ≤ (js32.size : Int))
                                          obtain ⟨js52, hjs52⟩ : ∃ z_ : ByteArray, (js32.extract 4 js32.size) = z_ := ⟨_, rfl⟩
                                          replace H : (fastjson_validateString.l0 kj32 js52 t122) = some (r1, r2, r3) := by first | (rw [hjs52] at H; exact H) | (simp only [hjs52] at H ⊢; exact H)
                                          have H' := Aside0.mk H
                                          clear H
                                          try have hcs53 := fun W_ : World => run_slice_string_h (P := Tryd.prog) W_ 9 js32 Tryd.underlying9 .i64 4 (by omega) (of_decide_eq_true (by first | (with_reducible assumption) | assumption))
                                          (try simp only [hjs49] at hcs53)
                                          go_wp2_with (first | (go_at_call 100; (with_reducible refine (strconv_ParseUint.calls js49 16 16 t128 none _ ?side1 ?side2 A50.out).mono ?_); (case side1 => repeat (first | exact Kd.C_below HRG6.out (by repeat (first | (with_reducible first | exact HB.out | apply below_alloc | apply pw_below_drewN | apply below_drew1) | exact HB.out)) | exact HRG6.out | (with_reducible refine Kd.C_alloc ?_ _) | (with_reducible refine Kd.C_drewN ?_ _) | (with_reducible refine Kd.C_drew ?_))); (case side2 => repeat (first | exact Kd.C_below HRG7.out (by repeat (first | (with_reducible first | exact HB.out | apply below_alloc | apply pw_below_drewN | apply below_drew1) | exact HB.out)) | exact HRG7.out | (with_reducible refine Kd.C_alloc ?_ _) | (with_reducible refine Kd.C_drewN ?_ _) | (with_reducible refine Kd.C_drew ?_))); rintro e w54 ⟨et_A50_1, ep_A50_1, rfl, hb⟩; have n0_ := Aside0.mk (below_step (by repeat (first | (with_reducible first | exact HB.out | apply below_alloc | apply pw_below_drewN | apply below_drew1) | exact HB.out)) hb); clear HB; have HB := n0_; clear n0_; (try clear hb); (try clear hb2); (try clear hk); (try clear hi); (try simp only [errW_none, errW_some, errX_none, errX_some]); try have hcs55 := fun W_ : World => run_slice_string_l (P := Tryd.prog) W_ 9 js32 Tryd.underlying9 .i64 4 (by omega) (of_decide_eq_true (by first | (with_reducible assumption) | assumption)); (try simp only [hjs52] at hcs55)))
                                          repeat (go_quiet (first | (go_at_call 100; (with_reducible refine (strconv_ParseUint.calls js49 16 16 t128 none _ ?side1 ?side2 A50.out).mono ?_); (case side1 => repeat (first | exact Kd.C_below HRG6.out (by repeat (first | (with_reducible first | exact HB.out | apply below_alloc | apply pw_below_drewN | apply below_drew1) | exact HB.out)) | exact HRG6.out | (with_reducible refine Kd.C_alloc ?_ _) | (with_reducible refine Kd.C_drewN ?_ _) | (with_reducible refine Kd.C_drew ?_))); (case side2 => repeat (first | exact Kd.C_below HRG7.out (by repeat (first | (with_reducible first | exact HB.out | apply below_alloc | apply pw_below_drewN | apply below_drew1) | exact HB.out)) | exact HRG7.out | (with_reducible refine Kd.C_alloc ?_ _) | (with_reducible refine Kd.C_drewN ?_ _) | (with_reducible refine Kd.C_drew ?_))); rintro e w54 ⟨et_A50_1, ep_A50_1, rfl, hb⟩; have n0_ := Aside0.mk (below_step (by repeat (first | (with_reducible first | exact HB.out | apply below_alloc | apply pw_below_drewN | apply below_drew1) | exact HB.out)) hb); clear HB; have HB := n0_; clear n0_; (try clear hb); (try clear hb2); (try clear hk); (try clear hi); (try simp only [errW_none, errW_some, errX_none, errX_some]); try have hcs55 := fun W_ : World => run_slice_string_l (P := Tryd.prog) W_ 9 js32 Tryd.underlying9 .i64 4 (by omega) (of_decide_eq_true (by first | (with_reducible assumption) | assumption)); (try simp only [hjs52] at hcs55))); try go_wp2_with (first | (go_at_call 100; (with_reducible refine (strconv_ParseUint.calls js49 16 16 t128 none _ ?side1 ?side2 A50.out).mono ?_); (case side1 => repeat (first | exact Kd.C_below HRG6.out (by repeat (first | (with_reducible first | exact HB.out | apply below_alloc | apply pw_below_drewN | apply below_drew1) | exact HB.out)) | exact HRG6.out | (with_reducible refine Kd.C_alloc ?_ _) | (with_reducible refine Kd.C_drewN ?_ _) | (with_reducible refine Kd.C_drew ?_))); (case side2 => repeat (first | exact Kd.C_below HRG7.out (by repeat (first | (with_reducible first | exact HB.out | apply below_alloc | apply pw_below_drewN | apply below_drew1) | exact HB.out)) | exact HRG7.out | (with_reducible refine Kd.C_alloc ?_ _) | (with_reducible refine Kd.C_drewN ?_ _) | (with_reducible refine Kd.C_drew ?_))); rintro e w54 ⟨et_A50_1, ep_A50_1, rfl, hb⟩; have n0_ := Aside0.mk (below_step (by repeat (first | (with_reducible first | exact HB.out | apply below_alloc | apply pw_below_drewN | apply below_drew1) | exact HB.out)) hb); clear HB; have HB := n0_; clear n0_; (try clear hb); (try clear hb2); (try clear hk); (try clear hi); (try simp only [errW_none, errW_some, errX_none, errX_some]); try have hcs55 := fun W_ : World => run_slice_string_l (P := Tryd.prog) W_ 9 js32 Tryd.underlying9 .i64 4 (by omega) (of_decide_eq_true (by first | (with_reducible assumption) | assumption)); (try simp only [hjs52] at hcs55))))
                                          go_roundg kj32
                                          case measure => have := HJ2.out; have := HK2.out; have := HJ32.out; omega
                                          case rel => exact ⟨(js52), (by first | rfl | (simp; done) | (simp [*]; done)), H', ⟨by have := HJ2.out; have := HK2.out; have := HJ32.out; omega⟩, ⟨by repeat (first | (with_reducible first | exact HB.out | apply below_alloc | apply pw_below_drewN | apply below_drew1) | exact HB.out)⟩⟩
                                        · have H1 : ((errors_New.f (⟨#[105, 110, 118, 97, 108, 105, 100, 32, 101, 115, 99, 97, 112, 101, 32, 115, 101, 113, 117, 101, 110, 99, 101, 32, 92, 117]⟩ : ByteArray)).bind fun t131 => (some (js32, t122, t131))) = some (r1, r2, r3) := by rw [if_neg (show ¬ (some q130).isNone = true by simp)] at H; exact H
                                          clear H
                                          have H := H1
                                          clear H1
                                          try simp only [errW_none, errW_some, errX_none, errX_some]
                                          replace H := Option.bind_eq_some_iff.mp H
                                          obtain ⟨t131, A560, H⟩ := H
                                          replace H : (some (js32, t122, t131)) = some (r1, r2, r3) := H
                                          have A56 := Aside0.mk A560
                                          clear A560
                                          simp only [Option.some.injEq, Prod.mk.injEq] at H
                                          obtain ⟨rfl, rfl, rfl⟩ := H
                                          try have hcs57 := fun W_ : World => run_slice_string_h (P := Tryd.prog) W_ 9 js32 Tryd.underlying9 .i64 4 (by omega) (of_decide_eq_true (by first | (with_reducible assumption) | assumption))
                                          (try simp only [hjs49] at hcs57)
                                          go_wp2_with (first | (go_at_call 100; (with_reducible refine (strconv_ParseUint.calls js49 16 16 t128 (some q130) _ ?side1 ?side2 A50.out).mono ?_); (case side1 => repeat (first | exact Kd.C_below HRG6.out (by repeat (first | (with_reducible first | exact HB.out | apply below_alloc | apply pw_below_drewN | apply below_drew1) | exact HB.out)) | exact HRG6.out | (with_reducible refine Kd.C_alloc ?_ _) | (with_reducible refine Kd.C_drewN ?_ _) | (with_reducible refine Kd.C_drew ?_))); (case side2 => repeat (first | exact Kd.C_below HRG7.out (by repeat (first | (with_reducible first | exact HB.out | apply below_alloc | apply pw_below_drewN | apply below_drew1) | exact HB.out)) | exact HRG7.out | (with_reducible refine Kd.C_alloc ?_ _) | (with_reducible refine Kd.C_drewN ?_ _) | (with_reducible refine Kd.C_drew ?_))); rintro e w58 ⟨et_A50_1, ep_A50_1, rfl, hb⟩; have n0_ := Aside0.mk (below_step (by repeat (first | (with_reducible first | exact HB.out | apply below_alloc | apply pw_below_drewN | apply below_drew1) | exact HB.out)) hb); clear HB; have HB := n0_; clear n0_; (try clear hb); (try clear hb2); (try clear hk); (try clear hi); (try simp only [errW_none, errW_some, errX_none, errX_some])) | (go_at_call 81; (with_reducible refine (errors_New.calls (⟨#[105, 110, 118, 97, 108, 105, 100, 32, 101, 115, 99, 97, 112, 101, 32, 115, 101, 113, 117, 101, 110, 99, 101, 32, 92, 117]⟩ : ByteArray) t131 _ A56.out).mono ?_); rintro e w59 ⟨et_A56_0, ep_A56_0, rfl, hb⟩; have n0_ := Aside0.mk (below_step (by repeat (first | (with_reducible first | exact HB.out | apply below_alloc | apply pw_below_drewN | apply below_drew1) | exact HB.out)) hb); clear HB; have HB := n0_; clear n0_; (try clear hb); (try clear hb2); (try clear hk); (try clear hi); (try simp only [errW_none, errW_some, errX_none, errX_some])))
                                          repeat (go_quiet (first | (go_at_call 100; (with_reducible refine (strconv_ParseUint.calls js49 16 16 t128 (some q130) _ ?side1 ?side2 A50.out).mono ?_); (case side1 => repeat (first | exact Kd.C_below HRG6.out (by repeat (first | (with_reducible first | exact HB.out | apply below_alloc | apply pw_below_drewN | apply below_drew1) | exact HB.out)) | exact HRG6.out | (with_reducible refine Kd.C_alloc ?_ _) | (with_reducible refine Kd.C_drewN ?_ _) | (with_reducible refine Kd.C_drew ?_))); (case side2 => repeat (first | exact Kd.C_below HRG7.out (by repeat (first | (with_reducible first | exact HB.out | apply below_alloc | apply pw_below_drewN | apply below_drew1) | exact HB.out)) | exact HRG7.out | (with_reducible refine Kd.C_alloc ?_ _) | (with_reducible refine Kd.C_drewN ?_ _) | (with_reducible refine Kd.C_drew ?_))); rintro e w58 ⟨et_A50_1, ep_A50_1, rfl, hb⟩; have n0_ := Aside0.mk (below_step (by repeat (first | (with_reducible first | exact HB.out | apply below_alloc | apply pw_below_drewN | apply below_drew1) | exact HB.out)) hb); clear HB; have HB := n0_; clear n0_; (try clear hb); (try clear hb2); (try clear hk); (try clear hi); (try simp only [errW_none, errW_some, errX_none, errX_some])) | (go_at_call 81; (with_reducible refine (errors_New.calls (⟨#[105, 110, 118, 97, 108, 105, 100, 32, 101, 115, 99, 97, 112, 101, 32, 115, 101, 113, 117, 101, 110, 99, 101, 32, 92, 117]⟩ : ByteArray) t131 _ A56.out).mono ?_); rintro e w59 ⟨et_A56_0, ep_A56_0, rfl, hb⟩; have n0_ := Aside0.mk (below_step (by repeat (first | (with_reducible first | exact HB.out | apply below_alloc | apply pw_below_drewN | apply below_drew1) | exact HB.out)) hb); clear HB; have HB := n0_; clear n0_; (try clear hb); (try clear hb2); (try clear hk); (try clear hi); (try simp only [errW_none, errW_some, errX_none, errX_some]))); try go_wp2_with (first | (go_at_call 100; (with_reducible refine (strconv_ParseUint.calls js49 16 16 t128 (some q130) _ ?side1 ?side2 A50.out).mono ?_); (case side1 => repeat (first | exact Kd.C_below HRG6.out (by repeat (first | (with_reducible first | exact HB.out | apply below_alloc | apply pw_below_drewN | apply below_drew1) | exact HB.out)) | exact HRG6.out | (with_reducible refine Kd.C_alloc ?_ _) | (with_reducible refine Kd.C_drewN ?_ _) | (with_reducible refine Kd.C_drew ?_))); (case side2 => repeat (first | exact Kd.C_below HRG7.out (by repeat (first | (with_reducible first | exact HB.out | apply below_alloc | apply pw_below_drewN | apply below_drew1) | exact HB.out)) | exact HRG7.out | (with_reducible refine Kd.C_alloc ?_ _) | (with_reducible refine Kd.C_drewN ?_ _) | (with_reducible refine Kd.C_drew ?_))); rintro e w58 ⟨et_A50_1, ep_A50_1, rfl, hb⟩; have n0_ := Aside0.mk (below_step (by repeat (first | (with_reducible first | exact HB.out | apply below_alloc | apply pw_below_drewN | apply below_drew1) | exact HB.out)) hb); clear HB; have HB := n0_; clear n0_; (try clear hb); (try clear hb2); (try clear hk); (try clear hi); (try simp only [errW_none, errW_some, errX_none, errX_some])) | (go_at_call 81; (with_reducible refine (errors_New.calls (⟨#[105, 110, 118, 97, 108, 105, 100, 32, 101, 115, 99, 97, 112, 101, 32, 115, 101, 113, 117, 101, 110, 99, 101, 32, 92, 117]⟩ : ByteArray) t131 _ A56.out).mono ?_); rintro e w59 ⟨et_A56_0, ep_A56_0, rfl, hb⟩; have n0_ := Aside0.mk (below_step (by repeat (first | (with_reducible first | exact HB.out | apply below_alloc | apply pw_below_drewN | apply below_drew1) | exact HB.out)) hb); clear HB; have HB := n0_; clear n0_; (try clear hb); (try clear hb2); (try clear hk); (try clear hi); (try simp only [errW_none, errW_some, errX_none, errX_some]))))
                                          go_ret3
                                          exact ⟨et_A56_0, ep_A56_0, by first | rfl | (simp [errW_none, errW_some] <;> rfl) | (simp only [← hji25, ← hji29]; first | rfl | (simp [errW_none, errW_some] <;> rfl)) | (simp [*, errW_none, errW_some] <;> rfl), by repeat (first | (with_reducible first | exact HB.out | apply below_alloc | apply pw_below_drewN | apply below_drew1) | exact HB.out)⟩
                                      · rw [if_neg c48] at H
                                        exact absurd H (by simp)
                                    · rw [if_neg c47] at H
                                      exact absurd H (by simp)
                                · rw [if_neg c43] at H
                                  have c43b0 : ((bt x6_2 (ji25)) == 117) = false := beq_eq_false_iff_ne.mpr c43
                                  have c43b1 : ((bt x6_2 (ji25)) != 117) = true := bne_iff_ne.mpr c43
                                  replace H := Option.bind_eq_some_iff.mp H
                                  obtain ⟨t132, A600, H⟩ := H
                                  replace H : (some (js32, t122, t132)) = some (r1, r2, r3) := H
                                  have A60 := Aside0.mk A600
                                  clear A600
                                  simp only [Option.some.injEq, Prod.mk.injEq] at H
                                  obtain ⟨rfl, rfl, rfl⟩ := H
                                  go_wp2_with (first | (go_at_call 81; (with_reducible refine (errors_New.calls (⟨#[117, 110, 107, 110, 111, 119, 110, 32, 101, 115, 99, 97, 112, 101, 32, 115, 101, 113, 117, 101, 110, 99, 101]⟩ : ByteArray) t132 _ A60.out).mono ?_); rintro e w61 ⟨et_A60_0, ep_A60_0, rfl, hb⟩; have n0_ := Aside0.mk (below_step (by repeat (first | (with_reducible first | exact HB.out | apply below_alloc | apply pw_below_drewN | apply below_drew1) | exact HB.out)) hb); clear HB; have HB := n0_; clear n0_; (try clear hb); (try clear hb2); (try clear hk); (try clear hi); (try simp only [errW_none, errW_some, errX_none, errX_some])))
                                  repeat (go_quiet (first | (go_at_call 81; (with_reducible refine (errors_New.calls (⟨#[117, 110, 107, 110, 111, 119, 110, 32, 101, 115, 99, 97, 112, 101, 32, 115, 101, 113, 117, 101, 110, 99, 101]⟩ : ByteArray) t132 _ A60.out).mono ?_); rintro e w61 ⟨et_A60_0, ep_A60_0, rfl, hb⟩; have n0_ := Aside0.mk (below_step (by repeat (first | (with_reducible first | exact HB.out | apply below_alloc | apply pw_below_drewN | apply below_drew1) | exact HB.out)) hb); clear HB; have HB := n0_; clear n0_; (try clear hb); (try clear hb2); (try clear hk); (try clear hi); (try simp only [errW_none, errW_some, errX_none, errX_some]))); try go_wp2_with (first | (go_at_call 81; (with_reducible refine (errors_New.calls (⟨#[117, 110, 107, 110, 111, 119, 110, 32, 101, 115, 99, 97, 112, 101, 32, 115, 101, 113, 117, 101, 110, 99, 101]⟩ : ByteArray) t132 _ A60.out).mono ?_); rintro e w61 ⟨et_A60_0, ep_A60_0, rfl, hb⟩; have n0_ := Aside0.mk (below_step (by repeat (first | (with_reducible first | exact HB.out | apply below_alloc | apply pw_below_drewN | apply below_drew1) | exact HB.out)) hb); clear HB; have HB := n0_; clear n0_; (try clear hb); (try clear hb2); (try clear hk); (try clear hi); (try simp only [errW_none, errW_some, errX_none, errX_some]))))
                                  go_ret3
                                  exact ⟨et_A60_0, ep_A60_0, by first | rfl | (simp [errW_none, errW_some] <;> rfl) | (simp only [← hji25, ← hji29]; first | rfl | (simp [errW_none, errW_some] <;> rfl)) | (simp [*, errW_none, errW_some] <;> rfl), by repeat (first | (with_reducible first | exact HB.out | apply below_alloc | apply pw_below_drewN | apply below_drew1) | exact HB.out)⟩
                        · rw [if_neg c31] at H
                          exact absurd H (by simp)
                      · rw [if_neg c30] at H
                        exact absurd H (by simp)
                    · rw [if_neg c27] at H
                      exact absurd H (by simp)
                  · rw [if_neg c26] at H
                    exact absurd H (by simp)
        · have H1 : (some (t121, t122, some q124)) = some (r1, r2, r3) := by rw [if_neg (show ¬ (some q124).isNone = true by simp)] at H; exact H
          clear H
          have H := H1
          clear H1
          try simp only [errW_none, errW_some, errX_none, errX_some]
          simp only [Option.some.injEq, Prod.mk.injEq] at H
          obtain ⟨rfl, rfl, rfl⟩ := H
          go_wp2_with (first | (go_at_call 99; (with_reducible refine (fastjson_parseRawString.calls kj2 a0 t121 t122 (some q124) _ A18.out).mono ?_); rintro e w62 ⟨et_A18_2, ep_A18_2, rfl, hb⟩; have n0_ := Aside0.mk (below_step (by repeat (first | (with_reducible first | exact HB.out | apply below_alloc | apply pw_below_drewN | apply below_drew1) | exact HB.out)) hb); clear HB; have HB := n0_; clear n0_; (try clear hb); (try clear hb2); (try clear hk); (try clear hi); (try simp only [errW_none, errW_some, errX_none, errX_some])))
          repeat (go_quiet (first | (go_at_call 99; (with_reducible refine (fastjson_parseRawString.calls kj2 a0 t121 t122 (some q124) _ A18.out).mono ?_); rintro e w62 ⟨et_A18_2, ep_A18_2, rfl, hb⟩; have n0_ := Aside0.mk (below_step (by repeat (first | (with_reducible first | exact HB.out | apply below_alloc | apply pw_below_drewN | apply below_drew1) | exact HB.out)) hb); clear HB; have HB := n0_; clear n0_; (try clear hb); (try clear hb2); (try clear hk); (try clear hi); (try simp only [errW_none, errW_some, errX_none, errX_some]))); try go_wp2_with (first | (go_at_call 99; (with_reducible refine (fastjson_parseRawString.calls kj2 a0 t121 t122 (some q124) _ A18.out).mono ?_); rintro e w62 ⟨et_A18_2, ep_A18_2, rfl, hb⟩; have n0_ := Aside0.mk (below_step (by repeat (first | (with_reducible first | exact HB.out | apply below_alloc | apply pw_below_drewN | apply below_drew1) | exact HB.out)) hb); clear HB; have HB := n0_; clear n0_; (try clear hb); (try clear hb2); (try clear hk); (try clear hi); (try simp only [errW_none, errW_some, errX_none, errX_some]))))
          go_ret3
          exact ⟨et_A18_2, ep_A18_2, by first | rfl | (simp [errW_none, errW_some] <;> rfl) | (simp [*, errW_none, errW_some] <;> rfl), by repeat (first | (with_reducible first | exact HB.out | apply below_alloc | apply pw_below_drewN | apply below_drew1) | exact HB.out)⟩

end Go.Proofs.YtfpbbnllaogclaaDoor.PG
